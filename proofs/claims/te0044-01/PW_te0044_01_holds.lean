import PyProof.Rows.All
import PyProof.AttrMissHeap
import PyProof.ZipIter
import PyProof.Rows.FactsExc_KeyError
import KE.KDictOf
import KE.KIntText
import KE.KOwnIter
import Wide.FinOn
import OpenK.AllK
import Wide.All
import Lean
import PySem.Challenge.RW_te0044_01
set_option Elab.async false
set_option linter.all false
set_option autoImplicit false
set_option tactic.hygienic false
set_option maxRecDepth 100000
set_option maxHeartbeats 8000000
set_option genSizeOf false
set_option genInjectivity false
set_option genCtorIdx false
namespace Tk
open PySem PySem.W PyProof.Rows PySem.Calls
section
noncomputable abbrev Nm:=List Nat
noncomputable abbrev XV:List Nat:=[101,120,112,101,99,116,101,100,45,100,97,115,104,101,115,45,111,114,45,100,111,99,116,121,112,101]
noncomputable abbrev XW:List Nat:=[101,120,112,101,99,116,101,100,45,116,97,103,45,110,97,109,101,45,98,117,116,45,103,111,116,45,113,117,101,115,116,105,111,110,45,109,97,114,107]
noncomputable abbrev XX:List Nat:=[101,120,112,101,99,116,101,100,45,116,97,103,45,110,97,109,101,45,98,117,116,45,103,111,116,45,114,105,103,104,116,45,98,114,97,99,107,101,116]
noncomputable abbrev XY:List Nat:=[101,120,112,101,99,116,101,100,45,99,108,111,115,105,110,103,45,116,97,103,45,98,117,116,45,103,111,116,45,99,104,97,114]
noncomputable abbrev XZ:List Nat:=[110,97,109,101,100,45,101,110,116,105,116,121,45,119,105,116,104,111,117,116,45,115,101,109,105,99,111,108,111,110]
noncomputable abbrev Xa:List Nat:=[110,111,116,105,110,59]
noncomputable abbrev Xb:List Nat:=[102,114,111,109,65,116,116,114,105,98,117,116,101]
noncomputable abbrev Xc:List Nat:=[101,120,112,101,99,116,101,100,45,110,97,109,101,100,45,101,110,116,105,116,121]
noncomputable abbrev Xd:List Nat:=[97,108,108,111,119,101,100,67,104,97,114]
noncomputable abbrev Xe:List Nat:=[101,120,112,101,99,116,101,100,45,116,97,103,45,110,97,109,101]
noncomputable abbrev Xf:List Nat:=[95,99,97,99,104,101,112,111,105,110,116,115]
noncomputable abbrev Xg:List Nat:=[97,109,112,59]
noncomputable abbrev Xh:List Nat:=[114,101,112,111,114,116,67,104,97,114,97,99,116,101,114,69,114,114,111,114,115]
noncomputable abbrev Xi:List Nat:=[104,114,101,102]
noncomputable abbrev Xj:List Nat:=[95,98,117,102,102,101,114,101,100,67,104,97,114,97,99,116,101,114]
noncomputable abbrev Xk:List Nat:=[95,99,97,99,104,101,115,116,114]
noncomputable abbrev Xl:List Nat:=[116,111,107,101,110,84,121,112,101,115]
noncomputable abbrev Xm:List Nat:=[38,108,116,59,50]
noncomputable abbrev Xn:List Nat:=[95,95,105,110,105,116,95,95]
noncomputable abbrev Xo:List Nat:=[13,14,15,16,17]
noncomputable abbrev Xp:List Nat:=[108,97,115,116,70,111,117,114,67,104,97,114,115]
noncomputable abbrev Xq:List Nat:=[101,110,116,105,116,105,101,115]
noncomputable abbrev Xr:List Nat:=[112,114,101,118,78,117,109,76,105,110,101,115]
noncomputable abbrev Xs:List Nat:=[99,117,114,114,101,110,116,84,111,107,101,110]
noncomputable abbrev Xu:List Nat:=[60,33,45,45]
noncomputable abbrev Xv:List Nat:=[115,101,108,102]
noncomputable abbrev Xw:List Nat:=[95,107,101,121,115]
noncomputable abbrev Xx:List Nat:=[108,116,59,50]
noncomputable abbrev Xy:List Nat:=[95,100,97,116,97]
theorem an {a b:Prop}(x:a)(y:b):a∧b:=⟨x,y⟩
noncomputable def st (x:Nm):Str:=⟨x.toArray⟩
theorem mB {x y:Nm}(h:st x=st y):x=y:=congrArg (fun s:Str=>s.cps.toList) h
inductive D where
 |non|boo (b:Bool)|int (i:Int)|str (s:List Nat)
 |tup (xs:List D)|lst (xs:List D)|dct (es:List (Nm×D))
inductive V where
 |dat (d:D)|ref (l:Nat)|top (a:Nat)|blt (id:String)|typ (n:String)|rng (a b:Int)|mth (f l:Nat)
set_option genCtorIdx true in
inductive O where
 |gone|lst (xs:List V)|tup (xs:List V)|ns (es:List (Nm×V))|fr (es:List (Nm×V))|cel (v:Option V)
 |ins (c d:Nat)
 |dls (xs:List D)
noncomputable def O.live:O→Bool
 |.gone=>false
 |_=>true
inductive Two {α:Type} (p:α→Prop) (q:List α→Prop):List α→Prop
 |mk {a:α} {l:List α} (h:p a) (r:q l):Two p q (a::l)
noncomputable def R2 {α β:Type}(R:α→β→Prop):List α→List β→Prop
 | [],ys=>ys=[]
 |x::xs,ys=>Two (R x) (R2 R xs) ys
section
variable {α β:Type}{R S:α→β→Prop}
theorem Two.imp {γ:Type}{R S:γ→Prop}{R' S':List γ→Prop}{l:List γ}(h:∀ y,R y→S y)(k:∀ ys,R' ys→S' ys):Two R R' l→Two S S' l
 |.mk a r=>.mk (h _ a) (k _ r)
theorem R2.imp (h:∀ a b,R a b→S a b):∀ {xs:List α} {ys:List β},R2 R xs ys→R2 S xs ys
 | [],_=>id
 |_::_,_=>Two.imp (h _) fun _=>R2.imp h
theorem Two.out {γ:Type}{R:γ→Prop}{R':List γ→Prop}{l:List γ}:Two R R' l→∃ y ys,l=y::ys∧R y∧R' ys
 |.mk a r=>⟨_,_,rfl,a,r⟩
theorem R2.len:∀ {xs:List α} {ys:List β},R2 R xs ys→ys.length=xs.length
 | [],_=>fun x=>congrArg List.length (show _=[]from x)
 |_::_,_=>fun h=>match Two.out h with|⟨_,_,e,_,r⟩=>e▸congrArg (· +1) (R2.len r)
theorem R2.app:∀ {xs xs':List α} {ys ys':List β},R2 R xs ys→R2 R xs' ys'→R2 R (xs++xs') (ys++ys')
 | [],_,_,_=>fun x y=>(show _=[]from x)▸y
 |_::_,_,_,_=>fun h y=>match Two.out h with|⟨_,_,e,a,r⟩=>e ▸ .mk a (R2.app r y)
theorem R2.drop:∀ (n:Nat) {xs:List α} {ys:List β},R2 R xs ys→R2 R (xs.drop n) (ys.drop n)
 |0,_,_=>id
 |_+1,[],_=>fun h=>(show _=[]from h)▸rfl
 |n+1,_::_,_=>fun h=>match Two.out h with|⟨_,_,e,_,r⟩=>e▸R2.drop n r
theorem R2.take:∀ (n:Nat) {xs:List α} {ys:List β},R2 R xs ys→R2 R (xs.take n) (ys.take n)
 |0,_,_=>fun _=>rfl
 |_+1,[],_=>fun h=>(show _=[]from h)▸rfl
 |n+1,_::_,_=>fun h=>match Two.out h with|⟨_,_,e,a,r⟩=>e ▸ .mk a (R2.take n r)
theorem R2.at:∀ {xs:List α} {ys:List β} {i:Nat} {x:α},R2 R xs ys→xs[i]? =some x→∃ y,ys[i]? =some y∧R x y
 | [],_,_,_=>fun _ e=>nomatch e
 |_::_,_,i,_=>fun h=>match Two.out h with
  |⟨y,_,e,a,r⟩=>match i with
   |0=>fun e'=>⟨y,e▸rfl,Option.some.inj e'▸a⟩
   |i+1=>fun e'=>e▸R2.at (i:=i) r e'
theorem R2.set:∀ {xs:List α} {ys:List β} {i:Nat} {x:α} {y:β},R2 R xs ys→R x y→R2 R (xs.set i x) (ys.set i y)
 | [],_,_,_,_=>fun h _=>(show _=[]from h)▸rfl
 |_::_,_,i,_,_=>fun h=>match Two.out h with
  |⟨_,_,e,a,r⟩=>match i with
   |0=>fun h=>e ▸ .mk h r
   |_+1=>fun h=>e ▸ .mk a (R2.set r h)
theorem R2.one {x:α}{y:β}(h:R x y):R2 R [x] [y]:=.mk h rfl
theorem R2.map {γ:Type}{f:γ→α}:∀ {xs:List γ} {ys:List β},R2 (fun x=>R (f x)) xs ys→R2 R (xs.map f) ys
 | [],_=>id
 |_::_,_=>Two.imp (fun _=>id) fun _=>R2.map
end
structure Wd where
 n:Nat
 ρ:Nat→Addr
 fz:Addr→Option Obj
structure Wd.le (W W':Wd):Prop where
 n:W.n≤W'.n
 ρ:∀ l,l<W.n→W'.ρ l=W.ρ l
 fz:∀ a o,W.fz a=some o→W'.fz a=some o
theorem Wd.le.refl (W:Wd):W.le W:=⟨Nat.le_refl _,fun _ _=>rfl,fun _ _ h=>h⟩
theorem Wd.le.trans {W W' W'':Wd}(x:W.le W')(y:W'.le W''):W.le W'':=⟨Nat.le_trans x.n y.n,fun l h=>(y.ρ l (Nat.lt_of_lt_of_le h x.n)).trans (x.ρ l h),fun a o e=>y.fz a o (x.fz a o e)⟩
inductive IsI (i:Int):Value→Prop|mk (t:Tok):IsI i (.int i t)
inductive IsS (x:Nm):Value→Prop|mk (t:Tok):IsS x (.str (st x) t)
inductive IsSeq (fz:Addr→Option Obj) (c:String) (R:List Value→Prop):Value→Prop
 |mk (a:Addr) (vs:List Value) (n:Nat) (f:fz a=some ⟨.type c,none,.seq vs.toArray n,#[]⟩) (d:R vs):IsSeq fz c R (.ref a)
inductive IsDct (fz:Addr→Option Obj) (R:List DictEntry→Prop):Value→Prop
 |mk (a:Addr) (en:List DictEntry) (n:Nat) (f:fz a=some ⟨.type "dict",none,.dict en.toArray n,#[]⟩) (d:R en):IsDct fz R (.ref a)
inductive Ent (P:Params) (x:Nm) (R:Value→Prop):DictEntry→Prop
 |mk (e:DictEntry) (t:Tok) (h:e.hash=PyData.keyHash P (st x)) (k:e.key=.str (st x) t) (r:R e.val):Ent P x R e
theorem Ent.imp {P:Params}{x:Nm}{R S:Value→Prop}{e:DictEntry}(h:∀ v,R v→S v):Ent P x R e→Ent P x S e
 |.mk _ t a k r=>.mk _ t a k (h _ r)
mutual
noncomputable def DR (P:Params)(fz:Addr→Option Obj):D→Value→Prop
 |.non,v=>v=.none
 |.boo b,v=>v=.bool b
 |.int i,v=>IsI i v
 |.str x,v=>IsS x v
 |.tup ds,v=>IsSeq fz "tuple" (DRs P fz ds) v
 |.lst ds,v=>IsSeq fz "list" (DRs P fz ds) v
 |.dct es,v=>IsDct fz (DRe P fz es) v
noncomputable def DRs (P:Params)(fz:Addr→Option Obj):List D→List Value→Prop
 | [],vs=>vs=[]
 |d::ds,vs=>Two (DR P fz d) (DRs P fz ds) vs
noncomputable def DRe (P:Params)(fz:Addr→Option Obj):List (Nm×D)→List DictEntry→Prop
 | [],en=>en=[]
 |(x,d)::es,en=>Two (Ent P x (DR P fz d)) (DRe P fz es) en
end
noncomputable abbrev EV (P:Params)(R:V→Value→Prop)(p:Nm×V)(e:DictEntry):Prop:=Ent P p.1 (R p.2) e
theorem DRs.r2 {P:Params}{fz:Addr→Option Obj}:∀ {ds:List D} {vs:List Value},DRs P fz ds vs↔R2 (DR P fz) ds vs
 | [],_=>.rfl
 |_::_,_=>⟨Two.imp (fun _=>id) fun _=>DRs.r2.mp,Two.imp (fun _=>id) fun _=>DRs.r2.mpr⟩
variable (P:Params)
inductive IsM (W:Wd) (f l:Nat):Value→Prop
 |mk (a:Addr) (h:l<W.n) (z:W.fz a=some (methodObj (.ref f) (.ref (W.ρ l)))):IsM W f l (.ref a)
inductive IsR (fz:Addr→Option Obj) (x y:Int):Value→Prop
 |mk (a:Addr) (t t' t'':Tok) (z:fz a=some ⟨.type "range",none,.fields #[.int x t,.int y t',.int 1 t''],#[]⟩):IsR fz x y (.ref a)
noncomputable def VR (W:Wd):V→Value→Prop
 |.dat d,v=>DR P W.fz d v
 |.ref l,v=>l<W.n∧v=.ref (W.ρ l)
 |.top a,v=>v=.ref a
 |.blt i,v=>v=.builtin i
 |.typ n,v=>v=.type n
 |.rng x y,v=>IsR W.fz x y v
 |.mth f l,v=>IsM W f l v
noncomputable abbrev VRs (W:Wd):List V→List Value→Prop:=R2 (VR P W)
noncomputable abbrev ER (W:Wd):List (Nm×V)→List DictEntry→Prop:=R2 (EV P (VR P W))
inductive OSeq (c:String) (R:List Value→Prop):Obj→Prop
 |mk (vs:List Value) (n:Nat) (d:R vs):OSeq c R ⟨.type c,none,.seq vs.toArray n,#[]⟩
inductive ONs (R:List DictEntry→Prop):Obj→Prop
 |mk (en:List DictEntry) (n:Nat) (d:R en):ONs R ⟨.type "dict",none,.dict en.toArray n,#[]⟩
inductive OFr (R:List DictEntry→Prop):Obj→Prop
 |mk {sl:Array (Option Value)} (c:String) (en:List DictEntry) (n:Nat) (d:R en):OFr R ⟨.type c,none,.dict en.toArray n,sl⟩
inductive OCel (R:Option Value→Prop):Obj→Prop
 |mk (r:Option Value) (d:R r):OCel R ⟨.type "cell",none,.cell r,#[]⟩
inductive OIns (W:Wd) (c d:Nat):Obj→Prop
 |mk (h:d<W.n):OIns W c d ⟨.ref c,some (W.ρ d),.plain,#[]⟩
noncomputable def CR (R:V→Value→Prop):Option V→Option Value→Prop
 |none,none=>True
 |some x,some y=>R x y
 |_,_=>False
noncomputable def OR (W:Wd):O→Obj→Prop
 |.gone,_=>False
 |.lst xs,o=>OSeq "list" (VRs P W xs) o
 |.tup xs,o=>OSeq "tuple" (VRs P W xs) o
 |.ns es,o=>(es.map (·.1)).Nodup∧ONs (ER P W es) o
 |.fr es,o=>OFr (ER P W es) o
 |.cel v,o=>OCel (CR (VR P W) v) o
 |.ins c d,o=>OIns W c d o
 |.dls xs,o=>OSeq "list" (DRs P W.fz xs) o
variable {P}
theorem IsSeq.imp {fz fz':Addr→Option Obj}{c:String}{R S:List Value→Prop}{v:Value}(h:∀ a o,fz a=some o→fz' a=some o)(k:∀ vs,R vs→S vs):IsSeq fz c R v→IsSeq fz' c S v
 |.mk a vs n f d=>.mk a vs n (h _ _ f) (k _ d)
theorem IsDct.imp {fz fz':Addr→Option Obj}{R S:List DictEntry→Prop}{v:Value}(h:∀ a o,fz a=some o→fz' a=some o)(k:∀ vs,R vs→S vs):IsDct fz R v→IsDct fz' S v
 |.mk a vs n f d=>.mk a vs n (h _ _ f) (k _ d)
mutual
theorem DR.mono {fz fz':Addr→Option Obj}(h:∀ a o,fz a=some o→fz' a=some o):∀ {d:D} {v:Value},DR P fz d v→DR P fz' d v
 |.non,_=>id
 |.boo _,_=>id
 |.int _,_=>id
 |.str _,_=>id
 |.tup _,_=>IsSeq.imp h fun _=>DRs.mono h
 |.lst _,_=>IsSeq.imp h fun _=>DRs.mono h
 |.dct _,_=>IsDct.imp h fun _=>DRe.mono h
theorem DRs.mono {fz fz':Addr→Option Obj}(h:∀ a o,fz a=some o→fz' a=some o):∀ {d:List D} {v:List Value},DRs P fz d v→DRs P fz' d v
 | [],_=>id
 |_::_,_=>Two.imp (fun _=>DR.mono h) fun _=>DRs.mono h
theorem DRe.mono {fz fz':Addr→Option Obj}(h:∀ a o,fz a=some o→fz' a=some o):∀ {d:List (Nm×D)} {v:List DictEntry},DRe P fz d v→DRe P fz' d v
 | [],_=>id
 |(_,_)::_,_=>Two.imp (fun _=>Ent.imp fun _=>DR.mono h) fun _=>DRe.mono h
end
noncomputable def V.mp (r:Nat→V)(k:Nat→Nat):V→V
 |.ref l=>r l
 |.mth f l=>.mth f (k l)
 |v=>v
noncomputable def OU (r:Nat→V)(k:Nat→Nat):List (Nm×V)→List (Nm×V):=List.map fun x=>(x.1,x.2.mp r k)
noncomputable def O.mp (r:Nat→V)(k:Nat→Nat):O→O
 |.lst xs=>.lst (xs.map (V.mp r k))
 |.tup xs=>.tup (xs.map (V.mp r k))
 |.ns es=>.ns (OU r k es)
 |.fr es=>.fr (OU r k es)
 |.cel none=>.cel none
 |.cel (some v)=>.cel (some (v.mp r k))
 |.ins c d=>.ins c (k d)
 |.dls xs=>.dls xs
 |.gone=>.gone
structure Mv (P:Params) (W W':Wd) (r:Nat→V) (k:Nat→Nat) (ok:Nat→Bool):Prop where
 r:∀ l,ok l=true→l<W.n→VR P W' (r l) (.ref (W.ρ l))
 lt:∀ l,ok l=true→l<W.n→k l<W'.n
 ρ:∀ l,ok l=true→l<W.n→W'.ρ (k l)=W.ρ l
 fz:∀ a o,W.fz a=some o→W'.fz a=some o
noncomputable abbrev V.ren (k:Nat→Nat):V→V:=V.mp (fun l=>.ref (k l)) k
noncomputable abbrev O.ren (k:Nat→Nat):O→O:=O.mp (fun l=>.ref (k l)) k
theorem Mv.ren {P:Params}{W W':Wd}{k:Nat→Nat}{ok:Nat→Bool}(lt:∀ l,ok l=true→l<W.n→k l<W'.n)(ρ:∀ l,ok l=true→l<W.n→W'.ρ (k l)=W.ρ l)(fz:∀ a o,W.fz a=some o→W'.fz a=some o):Mv P W W' (fun l=>.ref (k l)) k ok:=
 ⟨fun l c q=>⟨lt l c q,congrArg Value.ref (ρ l c q).symm⟩,lt,ρ,fz⟩
theorem Wd.le.mv {P:Params}{W W':Wd}(h:W.le W'):Mv P W W' .ref id fun _=>true:=.ren (fun _ _ q=>Nat.lt_of_lt_of_le q h.n) (fun l _ q=>h.ρ l q) h.fz
noncomputable def V.cl (ok:Nat→Bool):V→Bool
 |.ref l=>ok l
 |.mth _ l=>ok l
 |_=>true
noncomputable def O.cl (ok:Nat→Bool):O→Bool
 |.lst xs=>xs.all (V.cl ok)
 |.tup xs=>xs.all (V.cl ok)
 |.ns es=>es.all fun x=>x.2.cl ok
 |.fr es=>es.all fun x=>x.2.cl ok
 |.cel (some v)=>v.cl ok
 |.cel none=>true
 |.ins _ d=>ok d
 |.dls _=>true
 |.gone=>true
theorem IsR.imp {fz fz':Addr→Option Obj}{x y:Int}{v:Value}(h:∀ a o,fz a=some o→fz' a=some o):IsR fz x y v→IsR fz' x y v
 |.mk a t t' t'' z=>.mk a t t' t'' (h _ _ z)
theorem IsM.imp {W W':Wd}{f l l':Nat}{v:Value}(h:∀ a o,W.fz a=some o→W'.fz a=some o)(lt:l<W.n→l'<W'.n)(ρ:l<W.n→W'.ρ l'=W.ρ l):IsM W f l v→IsM W' f l' v
 |.mk a q z=>.mk a (lt q) (by rw[ρ q];exact h _ _ z)
theorem OSeq.imp {c:String}{R S:List Value→Prop}{o:Obj}(k:∀ vs,R vs→S vs):OSeq c R o→OSeq c S o
 |.mk vs n d=>.mk vs n (k _ d)
theorem ONs.imp {R S:List DictEntry→Prop}{o:Obj}(k:∀ vs,R vs→S vs):ONs R o→ONs S o
 |.mk vs n d=>.mk vs n (k _ d)
theorem OFr.imp {R S:List DictEntry→Prop}{o:Obj}(k:∀ vs,R vs→S vs):OFr R o→OFr S o
 |.mk c vs n d=>.mk c vs n (k _ d)
theorem OCel.imp {R S:Option Value→Prop}{o:Obj}(k:∀ r,R r→S r):OCel R o→OCel S o
 |.mk r d=>.mk r (k _ d)
theorem OIns.imp {W W':Wd}{c l l':Nat}{o:Obj}(lt:l<W.n→l'<W'.n)(ρ:l<W.n→W'.ρ l'=W.ρ l):OIns W c l o→OIns W' c l' o
 |.mk h=>(ρ h)▸OIns.mk (lt h)
theorem CR.nn {R S:V→Value→Prop}{r:Option Value}:CR R none r→CR S none r:=match r with
 |none=>id
 |some _=>False.elim
theorem CR.ss {R S:V→Value→Prop}{x x':V}{r:Option Value}(k:∀ y,R x y→S x' y):CR R (some x) r→CR S (some x') r:=match r with
 |none=>False.elim
 |some y=>k y
section
variable {W W':Wd}{r:Nat→V}{k:Nat→Nat}{ok:Nat→Bool}(M:Mv P W W' r k ok)
include M
theorem VR.go {v:V}{u:Value}:v.cl ok=true→VR P W v u→VR P W' (v.mp r k) u:=match v with
 |.dat _=>fun _=>DR.mono M.fz
 |.ref _=>fun c x=>x.2▸M.r _ c x.1
 |.top _=>fun _=>id
 |.blt _=>fun _=>id
 |.typ _=>fun _=>id
 |.rng _ _=>fun _=>IsR.imp M.fz
 |.mth _ _=>fun c=>IsM.imp M.fz (M.lt _ c) (M.ρ _ c)
theorem VRs.go:∀ {v:List V} {u:List Value},v.all (V.cl ok)=true→VRs P W v u→VRs P W' (v.map (V.mp r k)) u
 | [],_=>fun _=>id
 |_::_,_=>fun c=>have c:=Bool.and_eq_true_iff.mp c;Two.imp (fun _=>VR.go M c.1) fun _=>VRs.go c.2
theorem ER.go:∀ {v:List (Nm×V)} {u:List DictEntry},(v.all fun x=>x.2.cl ok)=true→ER P W v u→ER P W' (OU r k v) u
 | [],_=>fun _=>id
 |_::_,_=>fun c=>have c:=Bool.and_eq_true_iff.mp c;Two.imp (fun _=>Ent.imp fun _=>VR.go M c.1) fun _=>ER.go c.2
theorem OCel.go {ob:Obj}{v:Option V}:(O.cel v).cl ok=true→OCel (CR (VR P W) v) ob→OR P W' ((O.cel v).mp r k) ob:=match v with
 |none=>fun _=>OCel.imp fun _=>CR.nn
 |some _=>fun c=>OCel.imp fun _=>CR.ss fun _=>VR.go M c
theorem OR.go {o:O}{ob:Obj}:o.cl ok=true→OR P W o ob→OR P W' (o.mp r k) ob:=match o with
 |.gone=>fun _=>id
 |.lst _=>fun c=>OSeq.imp fun _=>VRs.go M c
 |.tup _=>fun c=>OSeq.imp fun _=>VRs.go M c
 |.ns es=>fun c x=>⟨(List.map_map (l:=es)▸x.1:_),x.2.imp fun _=>ER.go M c⟩
 |.fr _=>fun c=>OFr.imp fun _=>ER.go M c
 |.cel _=>OCel.go M
 |.ins _ _=>fun c=>OIns.imp (M.lt _ c) (M.ρ _ c)
 |.dls _=>fun _=>OSeq.imp fun _=>DRs.mono M.fz
end
theorem V.ren_id:∀ v:V,v.mp .ref id=v
 |.dat _|.ref _|.top _|.blt _|.typ _|.rng _ _|.mth _ _=>rfl
theorem V.cl_all:∀ v:V,v.cl (fun _=>true)=true
 |.dat _|.ref _|.top _|.blt _|.typ _|.rng _ _|.mth _ _=>rfl
theorem VR.mono {W W':Wd}(h:W.le W'){x:V}{v:Value}(q:VR P W x v):VR P W' x v:=V.ren_id x▸VR.go h.mv (V.cl_all x) q
theorem VRs.mono {W W':Wd}(h:W.le W'){x:List V}{v:List Value}:VRs P W x v→VRs P W' x v:=R2.imp fun _ _=>VR.mono h
theorem ER.mono {W W':Wd}(h:W.le W'){x:List (Nm×V)}{v:List DictEntry}:ER P W x v→ER P W' x v:=R2.imp fun _ _=>Ent.imp fun _=>VR.mono h
theorem OR.mono {W W':Wd}(h:W.le W'){o:O}{ob:Obj}:OR P W o ob→OR P W' o ob:=match o with
 |.gone=>id
 |.lst _=>OSeq.imp fun _=>VRs.mono h
 |.tup _=>OSeq.imp fun _=>VRs.mono h
 |.ns _=>fun x=>⟨x.1,x.2.imp fun _=>ER.mono h⟩
 |.fr _=>OFr.imp fun _=>ER.mono h
 |.cel v=>OCel.imp fun _=>match v with
  |none=>CR.nn
  |some _=>CR.ss fun _=>VR.mono h
 |.ins _ _=>OIns.imp (fun q=>Nat.lt_of_lt_of_le q h.n) (h.ρ _)
 |.dls _=>OSeq.imp fun _=>DRs.mono h.fz
theorem OSeq.free {c:String}{R:List Value→Prop}{o:Obj}:OSeq c R o→o.isFreed=false
 |.mk .. =>rfl
theorem ONs.free {R:List DictEntry→Prop}{o:Obj}:ONs R o→o.isFreed=false
 |.mk .. =>rfl
theorem OFr.free {R:List DictEntry→Prop}{o:Obj}:OFr R o→o.isFreed=false
 |.mk .. =>rfl
theorem OCel.free {R:Option Value→Prop}{o:Obj}:OCel R o→o.isFreed=false
 |.mk .. =>rfl
theorem OIns.free {W:Wd}{c d:Nat}{o:Obj}:OIns W c d o→o.isFreed=false
 |.mk _=>rfl
theorem OR.free {W:Wd}{x:O}{o:Obj}:OR P W x o→o.isFreed=false:=match x with
 |.gone=>False.elim
 |.lst _=>OSeq.free
 |.tup _=>OSeq.free
 |.ns _=>fun h=>h.2.free
 |.fr _=>OFr.free
 |.cel _=>OCel.free
 |.ins .. =>OIns.free
 |.dls _=>OSeq.free
end
section
theorem eG {α:Type}{x:Option α}{o:α}(e:x=some o)(n:x=none):False:=nomatch e.symm.trans n
structure Lv (hp:List O) (l:Nat) (o:O):Prop where
 e:hp[l]? =some o
 v:o.live=true
theorem Lv.lt {hp:List O}{l:Nat}{o:O}(x:Lv hp l o):l<hp.length:=(List.getElem?_eq_some_iff.mp x.e).1
inductive Got (h:Heap) (a:Addr) (R:Obj→Prop):Prop
 |mk (ob:Obj) (g:h.get? a=some ob) (r:R ob)
theorem Got.imp {h h':Heap}{a:Addr}{R S:Obj→Prop}(x:Got h a R)(f:∀ o,h.get? a=some o→h'.get? a=some o)(k:∀ o,R o→S o):Got h' a S:=(by rcases x with⟨ob,g,r⟩;exact .mk ob (f _ g) (k _ r))
inductive GSeq (h:Heap) (a:Addr) (c:String) (R:List Value→Prop):Prop
 |mk (vs:List Value) (n:Nat) (g:h.get? a=some ⟨.type c,none,.seq vs.toArray n,#[]⟩) (d:R vs)
inductive GFr (h:Heap) (a:Addr) (R:List DictEntry→Prop):Prop
 |mk {sl:Array (Option Value)} (c:String) (en:List DictEntry) (n:Nat) (g:h.get? a=some ⟨.type c,none,.dict en.toArray n,sl⟩) (d:R en)
noncomputable def frm (o:Obj):Bool:=match o.data with
 |.dict .. =>match o.cls with
  |.type n=>decide (n="frame")
  |_=>false
 |_=>false
noncomputable def rV:Nat:=237
noncomputable def iC (a:Addr)(o:Obj):Bool:= !(Nat.beq a rV)&&frm o
theorem kH {a:Addr}{o:Obj}(h:frm o=false):iC a o=false:=by unfold iC;rw[h,Bool.and_false]
theorem gZ {a:Addr}{o:Obj}(h:iC a o=true):frm o=true:=(Bool.and_eq_true_iff.mp h).2
theorem KW {a:Addr}{o o':Obj}(f:frm o=true→frm o'=true)(h:iC a o=true):iC a o'=true:=Bool.and_eq_true_iff.mpr ⟨(Bool.and_eq_true_iff.mp h).1,f (gZ h)⟩
inductive Upto (a:Addr) (o:Obj):Obj→Prop
 |id:Upto a o o
 |sl (f:iC a o=true) (s:Array (Option Value)):Upto a o {o with slots:=s}
theorem Upto.frm {x:Addr}{o o':Obj}:Upto x o o'→Tk.frm o'=Tk.frm o
 |.id=>rfl
 |.sl _ _=>rfl
theorem Upto.trans {x:Addr}{a b c:Obj}:Upto x a b→Upto x b c→Upto x a c
 |.id,y=>y
 |.sl f s,y=>match c,y with
  |_,.id=>.sl f s
  |_,.sl _ s'=>.sl f s'
theorem Upto.eq {x:Addr}{o o':Obj}(n:iC x o=false):Upto x o o'→o'=o
 |.id=>rfl
 |.sl f _=>nomatch n.symm.trans f
inductive Up (h:Heap) (a:Addr) (o:Obj):Prop
 |mk (o':Obj) (g:h.get? a=some o') (u:Upto a o o')
theorem Up.here {h:Heap}{a:Addr}{o:Obj}(g:h.get? a=some o):Up h a o:=.mk o g .id
theorem Up.eqm {h:Heap}{a:Addr}{o:Obj}(n:iC a o=false):Up h a o→h.get? a=some o
 |.mk _ g u=>g.trans (congrArg some (u.eq n))
theorem Up.eq {h:Heap}{a:Addr}{o:Obj}(n:frm o=false)(u:Up h a o):h.get? a=some o:=u.eqm (kH n)
inductive Still (h:Heap) (a:Addr) (o:Obj):Prop
 |mk (o':Obj) (g:h.get? a=some o') (f:frm o=true→frm o'=true)
theorem Still.here {h:Heap}{a:Addr}{o:Obj}(g:h.get? a=some o):Still h a o:=.mk o g id
inductive GNs (h:Heap) (a:Addr) (R:List DictEntry→Prop) (p:Prop):Prop
 |mk (en:List DictEntry) (n:Nat) (g:h.get? a=some ⟨.type "dict",none,.dict en.toArray n,#[]⟩) (d:R en) (nd:p)
inductive GCel (h:Heap) (a:Addr) (R:Option Value→Prop):Prop
 |mk (r:Option Value) (g:h.get? a=some ⟨.type "cell",none,.cell r,#[]⟩) (d:R r)
structure Rel (P:Params) (W:Wd) (hp:List O) (h:Heap):Prop where
 len:W.n=hp.length
 obj:∀ l o,Lv hp l o→Got h (W.ρ l) (OR P W o)
 cold:∀ l o,Lv hp l o→W.fz (W.ρ l)=none
 inj:∀ l l' o o',Lv hp l o→Lv hp l' o'→W.ρ l=W.ρ l'→l=l'
 fz:∀ a o,W.fz a=some o→h.get? a=some o
 nf:∀ a o,W.fz a=some o→iC a o=false
inductive Live (W:Wd) (hp:List O) (a:Addr):Prop
 |mk (l:Nat) (o:O) (v:Lv hp l o) (e:W.ρ l=a)
structure Ex (W:Wd) (hp:List O) (W':Wd) (hp':List O) (h':Heap) (a:Addr) (o:Obj):Prop where
 keep:¬ Live W hp a→Up h' a o
 live:Live W' hp' a→Live W hp a
 ex:Still h' a o
 cool:∀ o',W'.fz a=some o'→W.fz a=some o'∨Live W hp a
structure Ext (W:Wd) (hp:List O) (h:Heap) (W':Wd) (hp':List O) (h':Heap):Prop where
 le:W.le W'
 at_:∀ a o,h.get? a=some o→Ex W hp W' hp' h' a o
section
variable {P:Params}{W W' W'':Wd}{hp hp' hp'':List O}{h h' h'':Heap}
theorem Ext.refl (W:Wd)(hp:List O)(h:Heap):Ext W hp h W hp h:=⟨.refl W,fun _ _ e=>⟨fun _=>.here e,id,.here e,fun _=>.inl⟩⟩
theorem Ext.trans (x:Ext W hp h W' hp' h')(y:Ext W' hp' h' W'' hp'' h''):Ext W hp h W'' hp'' h'':=
 ⟨x.le.trans y.le,fun a o e=>let X:=x.at_ a o e;match X.ex with
  |.mk o1 e1 f1=>let Y:=y.at_ a o1 e1
   ⟨fun n=>(by rcases X.keep n with⟨o2,e2,u2⟩;exact(by rcases(y.at_ a o2 e2).keep fun l=>n (X.live l)with⟨o3,e3,u3⟩;exact .mk o3 e3 (u2.trans u3))),fun l=>X.live (Y.live l),(by rcases Y.ex with⟨o3,e3,f3⟩;exact .mk o3 e3 fun q=>f3 (f1 q)),fun o' f=>(Y.cool o' f).elim (X.cool o') fun l=>.inr (X.live l)⟩⟩
theorem Rel.lt (R:Rel P W hp h){l:Nat}{o:O}(x:Lv hp l o):l<W.n:=R.len▸x.lt
theorem Rel.lst (R:Rel P W hp h){l:Nat}{xs:List V}(v:Lv hp l (.lst xs)):GSeq h (W.ρ l) "list" (VRs P W xs):=(by rcases R.obj _ _ v with⟨ob,g,r⟩;exact(by rcases(r:OSeq "list" (VRs P W xs) ob)with⟨vs,n,d⟩;exact .mk vs n g d))
theorem Rel.dls (R:Rel P W hp h){l:Nat}{xs:List D}(v:Lv hp l (.dls xs)):GSeq h (W.ρ l) "list" (DRs P W.fz xs):=(by rcases R.obj _ _ v with⟨ob,g,r⟩;exact(by rcases(r:OSeq "list" (DRs P W.fz xs) ob)with⟨vs,n,d⟩;exact .mk vs n g d))
theorem Rel.tup (R:Rel P W hp h){l:Nat}{xs:List V}(v:Lv hp l (.tup xs)):GSeq h (W.ρ l) "tuple" (VRs P W xs):=(by rcases R.obj _ _ v with⟨ob,g,r⟩;exact(by rcases(r:OSeq "tuple" (VRs P W xs) ob)with⟨vs,n,d⟩;exact .mk vs n g d))
theorem Rel.fr (R:Rel P W hp h){l:Nat}{es:List (Nm×V)}(v:Lv hp l (.fr es)):GFr h (W.ρ l) (ER P W es):=(by rcases R.obj _ _ v with⟨ob,g,r⟩;exact(by rcases(r:OFr (ER P W es) ob)with⟨c,en,n,d⟩;exact .mk c en n g d))
theorem Rel.ns (R:Rel P W hp h){l:Nat}{es:List (Nm×V)}(v:Lv hp l (.ns es)):GNs h (W.ρ l) (ER P W es) (es.map (·.1)).Nodup:=(by rcases R.obj _ _ v with⟨ob,g,r⟩;exact(by rcases(r.2:ONs (ER P W es) ob)with⟨en,n,d⟩;exact .mk en n g d r.1))
theorem Rel.cel (R:Rel P W hp h){l:Nat}{x:Option V}(v:Lv hp l (.cel x)):GCel h (W.ρ l) (CR (VR P W) x):=(by rcases R.obj _ _ v with⟨ob,g,r⟩;exact(by rcases(r:OCel (CR (VR P W) x) ob)with⟨r,d⟩;exact .mk r g d))
theorem Rel.ins (R:Rel P W hp h){l c d:Nat}(v:Lv hp l (.ins c d)):h.get? (W.ρ l)=some ⟨.ref c,some (W.ρ d),.plain,#[]⟩∧d<W.n:=(by rcases R.obj _ _ v with⟨ob,g,r⟩;exact(by rcases(r:OIns W c d ob)with⟨q⟩;exact⟨g,q⟩))
inductive From (P:Params) (W:Wd) (hp:List O) (h':Heap) (W':Wd) (k l:Nat) (o':O):Prop
 |mk (o:O) (v:Lv hp k o) (e:W'.ρ l=W.ρ k) (g:Got h' (W.ρ k) (OR P W' o')) (z:W'.fz (W.ρ k)=none)
theorem Rel.via (R:Rel P W hp h){k:Nat→Nat}(len:W'.n=hp'.length)(fz:∀ a o,W'.fz a=some o→h'.get? a=some o)(nf:∀ a o,W'.fz a=some o→iC a o=false)(pk:∀ l o',Lv hp' l o'→From P W hp h' W' (k l) l o')(ki:∀ l l',l<W'.n→l'<W'.n→k l=k l'→l=l'):Rel P W' hp' h':=
 ⟨len,fun l o v=>(by rcases pk l o v with⟨_,_,e,g,_⟩;exact e▸g),fun l o v=>(by rcases pk l o v with⟨_,_,e,_,z⟩;exact e▸z),
  fun l l' o o' v v' e=>match pk l o v,pk l' o' v' with|.mk a va ea _ _,.mk b vb eb _ _=>ki l l' (len▸v.lt) (len▸v'.lt) (R.inj _ _ a b va vb (ea.symm.trans (e.trans eb))),fz,nf⟩
theorem From.live {k:Nat→Nat}(pk:∀ l o',Lv hp' l o'→From P W hp h' W' (k l) l o'){a:Addr}(x:Live W' hp' a):Live W hp a:=(by rcases x with⟨l,o,v,e⟩;exact(by rcases pk l o v with⟨o',v',e',_,_⟩;exact .mk _ o' v' (e'.symm.trans e)))
theorem Lv.set {l k:Nat}{o' o1:O}(x:Lv (hp.set l o') k o1):(k=l∧o1=o')∨(k≠l∧Lv hp k o1):=by
 by_cases q:k=l
 ·subst q;exact .inl ⟨rfl,Option.some.inj (x.e.symm.trans (List.getElem?_set_self (by simpa using x.lt)))⟩
 ·exact .inr ⟨q,(List.getElem?_set_ne (Ne.symm q)).symm.trans x.e,x.v⟩
theorem Rel.change (R:Rel P W hp h){l:Nat}{o o':O}(v:Lv hp l o)(hs:∀ b,b≠W.ρ l→h'.get? b=h.get? b)(g:Got h' (W.ρ l) (OR P W o'))(hF:∀ ob ob',h.get? (W.ρ l)=some ob→h'.get? (W.ρ l)=some ob'→frm ob=true→frm ob'=true):Rel P W (hp.set l o') h'∧Ext W hp h W (hp.set l o') h':=
 have pk:∀ k o1,Lv (hp.set l o') k o1→From P W hp h' W (id k) k o1:=fun k o1 x=>match x.set with
  |.inl ⟨e,e'⟩=>e▸e' ▸ .mk o v rfl g (R.cold _ _ v)
  |.inr ⟨n,y⟩=>.mk o1 y rfl ((R.obj _ _ y).imp (fun _ e=>(hs _ fun q=>n (R.inj _ _ _ _ y v q)).trans e) fun _=>id) (R.cold _ _ y)
 have other:∀ a o,h.get? a=some o→a≠W.ρ l→h'.get? a=some o:=fun a _ e n=>(hs a n).trans e
 ⟨R.via (k:=id) (by rw[R.len,List.length_set]) (fun a _ e=>other a _ (R.fz a _ e) fun q=>eG (q▸e) (R.cold _ _ v)) R.nf pk fun _ _ _ _=>id,
  .refl W,fun a o1 e=>⟨fun n=>.here (other a o1 e fun q=>n (.mk l o v q.symm)),From.live pk,(Classical.em (a=W.ρ l)).elim (fun q=>(by rcases g with⟨ob,g,_⟩;exact .mk ob (q▸g) (hF o1 ob (q▸e) g))) fun q=>.here (other a o1 e q),fun _=>.inl⟩⟩
theorem Rel.update (R:Rel P W hp h){l:Nat}{o o':O}{f:Obj→Obj}{ob:Obj}(v:Lv hp l o)(hb:h.get? (W.ρ l)=some ob)(ho:OR P W o' (f ob))(hF:frm ob=true→frm (f ob)=true:=by exact fun q=>nomatch q):Rel P W (hp.set l o') (h.update (W.ρ l) f)∧Ext W hp h W (hp.set l o') (h.update (W.ρ l) f):=
 have g:=Heap.get?_update_self f hb ho.free
 R.change v (fun _ n=>Heap.get?_update_other h f (Ne.symm n)) (.mk _ g ho) fun x y e e' q=>Option.some.inj (g.symm.trans e')▸hF (Option.some.inj (e.symm.trans hb)▸q)
theorem Rel.forget (R:Rel P W hp h)(l:Nat):Rel P W (hp.set l .gone) h∧Ext W hp h W (hp.set l .gone) h:=
 have pk:∀ k o1,Lv (hp.set l .gone) k o1→From P W hp h W (id k) k o1:=fun k o1 x=>match x.set with
  |.inl ⟨_,e'⟩=>nomatch (e'▸x.v:O.live .gone=true)
  |.inr ⟨_,y⟩=>.mk o1 y rfl (R.obj _ _ y) (R.cold _ _ y)
 ⟨R.via (k:=id) (by rw[R.len,List.length_set]) R.fz R.nf pk fun _ _ _ _=>id,.refl W,fun _ _ e=>⟨fun _=>.here e,From.live pk,.here e,fun _=>.inl⟩⟩
theorem Rel.poke {a:Addr}(R:Rel P W hp h)(hl:¬ Live W hp a)(hz:W.fz a=none)(hk:∀ b o,b≠a→h.get? b=some o→h'.get? b=some o):Rel P W hp h':=
 R.via (k:=id) R.len (fun b o e=>hk b o (fun q=>eG (q▸e) hz) (R.fz b o e)) R.nf (fun _ o v=>.mk o v rfl ((R.obj _ _ v).imp (fun ob=>hk _ ob fun q=>hl (.mk _ o v q)) fun _=>id) (R.cold _ _ v)) fun _ _ _ _=>id
theorem Ext.poke {a:Addr}(E:Ext W hp h W' hp' h')(ha:h.get? a=none)(hk:∀ b o,b≠a→h'.get? b=some o→h''.get? b=some o):Ext W hp h W' hp' h'':=
 ⟨E.le,fun b o e=>let X:=E.at_ b o e;have ne:b≠a:=fun q=>eG (q▸e) ha;⟨fun n=>(by rcases X.keep n with⟨o',g,u⟩;exact .mk o' (hk b o' ne g) u),X.live,(by rcases X.ex with⟨o',e',f⟩;exact .mk o' (hk b o' ne e') f),X.cool⟩⟩
noncomputable def Wd.push (W:Wd)(a:Addr):Wd:=⟨W.n+1,fun l=>if l=W.n then a else W.ρ l,W.fz⟩
noncomputable def Wd.freeze (W:Wd)(a:Addr)(o:Obj):Wd:=⟨W.n,W.ρ,fun b=>if b=a then some o else W.fz b⟩
theorem Wd.le_push (W:Wd)(a:Addr):W.le (W.push a):=⟨Nat.le_succ _,fun _ q=>if_neg (Nat.ne_of_lt q),fun _ _=>id⟩
theorem Wd.fz_freeze {W:Wd}{a b:Addr}{o o':Obj}(z:W.fz a=none)(e:W.fz b=some o'):(W.freeze a o).fz b=some o':=(if_neg fun q=>eG (q▸e) z).trans e
theorem Wd.nf_freeze {W:Wd}{a:Addr}{ob:Obj}(nf:∀ a o,W.fz a=some o→iC a o=false)(hn:frm ob=false)(b:Addr)(o:Obj)(e:(W.freeze a ob).fz b=some o):iC b o=false:=
 (Classical.em (b=a)).elim (fun q=>Option.some.inj ((if_pos q).symm.trans e)▸kH hn) fun q=>nf b o ((if_neg q).symm.trans e)
theorem Wd.le_freeze {W:Wd}{a:Addr}{o:Obj}(z:W.fz a=none):W.le (W.freeze a o):=⟨Nat.le_refl _,fun _ _=>rfl,fun _ _=>fz_freeze z⟩
theorem Rel.new_cold (R:Rel P W hp h):W.fz h.objs.size=none:=match e:W.fz h.objs.size with
 |none=>rfl
 |some o=>absurd (Heap.lt_size (R.fz _ o e)) (Nat.lt_irrefl _)
theorem Rel.new_live (R:Rel P W hp h):¬ Live W hp h.objs.size:=fun|.mk l o v e=>(by rcases R.obj l o v with⟨_,g,_⟩;exact absurd (Heap.lt_size (e▸g)) (Nat.lt_irrefl _))
theorem Rel.push_at (R:Rel P W hp h)(a:Addr):(W.push a).ρ hp.length=a:=if_pos R.len.symm
theorem Lv.push {l:Nat}{o o':O}(x:Lv (hp++[o]) l o'):(l=hp.length∧o'=o)∨(l<hp.length∧Lv hp l o'):=by
 by_cases q:l<hp.length
 ·exact .inr ⟨q,(List.getElem?_append_left q).symm.trans x.e,x.v⟩
 ·have:=x.lt
  obtain rfl:l=hp.length:=by rw[List.length_append]at this;exact Nat.le_antisymm (Nat.le_of_lt_succ this) (Nat.le_of_not_lt q)
  exact .inl ⟨rfl,Option.some.inj (x.e.symm.trans List.getElem?_concat_length)⟩
theorem Rel.alloc (R:Rel P W hp h){o:O}{ob:Obj}(ho:OR P (W.push h.objs.size) o ob):
  Rel P (W.push h.objs.size) (hp++[o]) (h.push ob)∧Ext W hp h (W.push h.objs.size) (hp++[o]) (h.push ob):=
 have le:=Wd.le_push W h.objs.size
 have old:∀ l,l<hp.length→(W.push h.objs.size).ρ l=W.ρ l:=fun l q=>le.ρ l (R.len▸q)
 have far:∀ l o1,l<hp.length→Lv hp l o1→W.ρ l≠h.objs.size:=fun l o1 _ v e=>R.new_live (.mk l o1 v e)
 ⟨⟨by rw[List.length_append,← R.len];rfl,
  fun l o1 v=>match v.push with
   |.inl ⟨e,e'⟩=>e▸e' ▸ (R.push_at _).symm ▸ .mk ob (Heap.get?_push_size _ ho.free) ho
   |.inr ⟨q,y⟩=>(old l q).symm ▸ (R.obj _ _ y).imp (fun _=>Heap.get?_push_of_some _) fun _=>OR.mono le,
  fun l o1 v=>match v.push with
   |.inl ⟨e,_⟩=>e ▸ (R.push_at _).symm▸R.new_cold
   |.inr ⟨q,y⟩=>(old l q).symm▸R.cold _ _ y,
  fun l l' o1 o2 v v' e=>match v.push,v'.push with
   |.inl ⟨a,_⟩,.inl ⟨b,_⟩=>a.trans b.symm
   |.inl ⟨a,_⟩,.inr ⟨q,y⟩=>absurd (((old l' q).symm.trans e.symm).trans (a▸R.push_at _)) (far l' _ q y)
   |.inr ⟨q,y⟩,.inl ⟨a,_⟩=>absurd (((old l q).symm.trans e).trans (a▸R.push_at _)) (far l _ q y)
   |.inr ⟨q,y⟩,.inr ⟨q',y'⟩=>R.inj _ _ _ _ y y' ((old l q).symm.trans (e.trans (old l' q'))),
  fun a o1 e=>Heap.get?_push_of_some _ (R.fz a o1 e),R.nf⟩,
  le,fun a o1 e=>⟨fun _=>.here (Heap.get?_push_of_some _ e),fun|.mk l o2 v q=>match v.push with
   |.inl ⟨a,_⟩=>absurd (Heap.lt_size e) (by rw[← q,a,R.push_at];exact Nat.lt_irrefl _)
   |.inr ⟨q',y⟩=>.mk l o2 y ((old l q').symm.trans q),.here (Heap.get?_push_of_some _ e),fun _=>.inl⟩⟩
theorem Rel.allocZ (R:Rel P W hp h){ob:Obj}(hf:ob.isFreed=false)(hn:frm ob=false:=by rfl):
  Rel P (W.freeze h.objs.size ob) hp (h.push ob)∧Ext W hp h (W.freeze h.objs.size ob) hp (h.push ob):=
 have le:=Wd.le_freeze (o:=ob) R.new_cold
 have pk:∀ l o1,Lv hp l o1→From P W hp (h.push ob) (W.freeze h.objs.size ob) (id l) l o1:=fun l o1 v=>.mk o1 v rfl ((R.obj _ _ v).imp (fun _=>Heap.get?_push_of_some _) fun _=>OR.mono le)
  ((if_neg fun q=>R.new_live (.mk l o1 v q)).trans (R.cold _ _ v))
 ⟨R.via (k:=id) R.len (fun a o1 e=>by
  by_cases q:a=h.objs.size
  ·subst q;rw[← Option.some.inj ((if_pos rfl).symm.trans e)];exact Heap.get?_push_size _ hf
  ·exact Heap.get?_push_of_some _ (R.fz _ _ ((if_neg q).symm.trans e))) (Wd.nf_freeze R.nf hn) pk fun _ _ _ _=>id,
  le,fun a o1 e=>⟨fun _=>.here (Heap.get?_push_of_some _ e),From.live pk,.here (Heap.get?_push_of_some _ e),fun _ f=>.inl ((if_neg (Nat.ne_of_lt (Heap.lt_size e))).symm.trans f)⟩⟩
end
end
section
noncomputable def V.dt:V→Option D
 |.dat d=>some d
 |_=>none
theorem V.dt_eq {v:V}{d:D}(h:v.dt=some d):v=.dat d:=by
 cases v with
 |dat _=>exact congrArg V.dat (Option.some.inj h)
 |_=>cases h
noncomputable def p4:List V→Option (List D)
 | []=>some []
 |v::r=>v.dt.bind fun d=>(p4 r).map (d::·)
noncomputable def KX:List (Nm×V)→Option (List (Nm×D))
 | []=>some []
 |x::r=>x.2.dt.bind fun d=>(KX r).map ((x.1,d)::·)
theorem aS {α β:Type}{f:α→β}{x:Option α}{y:β}(h:x.map f=some y):∃ z,x=some z∧f z=y:=Option.map_eq_some_iff.mp h
theorem aJ {α β:Type}{f:α→Option β}{x:Option α}{y:β}(h:x.bind f=some y):∃ z,x=some z∧f z=some y:=Option.bind_eq_some_iff.mp h
section
variable {P:Params}{W:Wd}
theorem lT:∀ {vs:List V} {ds:List D} {us:List Value},VRs P W vs us→p4 vs=some ds→DRs P W.fz ds us
 | [],_,_,h,e=>Option.some.inj e▸h
 |_::_,_,_,.mk a r,e=>(aJ e).elim fun _ q=>(aS q.2).elim fun _ q'=>q'.2 ▸ .mk (V.dt_eq q.1▸a:VR P W (.dat _) _) (lT r q'.1)
theorem wZ:∀ {vs:List (Nm×V)} {ds:List (Nm×D)} {us:List DictEntry},ER P W vs us→KX vs=some ds→DRe P W.fz ds us
 | [],_,_,h,e=>Option.some.inj e▸h
 |_::_,_,_,.mk a r,e=>(aJ e).elim fun _ q=>(aS q.2).elim fun _ q'=>q'.2 ▸ .mk (a.imp fun u (z:VR P W _ u)=>(V.dt_eq q.1▸z:VR P W (.dat _) u)) (wZ r q'.1)
end
theorem O.live_mp {r:Nat→V}{k:Nat→Nat}:∀ o:O,(o.mp r k).live=o.live
 |.gone|.lst _|.tup _|.ns _|.fr _|.cel none|.cel (some _)|.ins _ _|.dls _=>rfl
inductive LvM (r:Nat→V) (k:Nat→Nat) (hp:List O) (l:Nat):O→Prop
 |mk (o:O) (v:Lv hp l o):LvM r k hp l (o.mp r k)
theorem Lv.mapped {r:Nat→V}{k:Nat→Nat}{hp:List O}{l:Nat}{o':O}(x:Lv (hp.map (O.mp r k)) l o'):LvM r k hp l o':=
 (aS (List.getElem?_map.symm.trans x.e)).elim fun o q=>q.2 ▸ .mk o ⟨q.1,(O.live_mp o).symm.trans (q.2▸x.v)⟩
theorem O.cl_all:∀ o:O,o.cl (fun _=>true)=true
 |.gone=>rfl
 |.lst _=>List.all_eq_true.mpr fun _ _=>V.cl_all _
 |.tup _=>List.all_eq_true.mpr fun _ _=>V.cl_all _
 |.ns _=>List.all_eq_true.mpr fun _ _=>V.cl_all _
 |.fr _=>List.all_eq_true.mpr fun _ _=>V.cl_all _
 |.cel none=>rfl
 |.cel (some _)=>V.cl_all _
 |.ins _ _=>rfl
 |.dls _=>rfl
noncomputable def sb (l:Nat)(d:D)(k:Nat):V:=match Nat.beq k l with
 |true=>.dat d
 |false=>.ref k
noncomputable def O.dt:O→Option D
 |.lst xs=>(p4 xs).map .lst
 |.tup xs=>(p4 xs).map .tup
 |.ns es=>(KX es).map .dct
 |.dls xs=>some (.lst xs)
 |_=>none
noncomputable def p5 (l:Nat)(hp:List O):Option D:=hp[l]?.bind O.dt
inductive Vw (P:Params) (W:Wd) (hp:List O) (h:Heap) (hp':List O) (r:Nat→V) (k:Nat→Nat):Prop
 |mk (W':Wd) (R:Rel P W' hp' h) (E:Ext W hp h W' hp' h) (m:Mv P W W' r k fun _=>true) (C:∀ a,¬ Live W hp a→W.fz a=none→¬ Live W' hp' a∧W'.fz a=none)
section
variable {P:Params}{W W' WS:Wd}{hp hp' hpS:List O}{h h':Heap}
theorem Aq {d:Option Addr}{en:Array DictEntry}{n:Nat}{sl:Array (Option Value)}:frm ⟨.type "dict",d,.dict en n,sl⟩=false:=by
 show decide (("dict" :String)="frame")=false
 decide
theorem OR.nofrm {o:O}{ob:Obj}(n:∀ es,o≠.fr es)(r:OR P W o ob):frm ob=false:=by
 cases o with
 |lst xs=>exact match ob,(r:OSeq "list" (VRs P W xs) ob)with|_,.mk .. =>rfl
 |tup xs=>exact match ob,(r:OSeq "tuple" (VRs P W xs) ob)with|_,.mk .. =>rfl
 |ns es=>exact match ob,(r.2:ONs (ER P W es) ob)with|_,.mk .. =>Aq
 |fr es=>exact absurd rfl (n es)
 |cel x=>exact match ob,(r:OCel (CR (VR P W) x) ob)with|_,.mk .. =>rfl
 |ins c d=>exact match ob,(r:OIns W c d ob)with|_,.mk .. =>rfl
 |dls xs=>exact match ob,(r:OSeq "list" (DRs P W.fz xs) ob)with|_,.mk .. =>rfl
 |gone=>exact r.elim
theorem Rel.nof (R:Rel P W hp h){l:Nat}{o:O}(v:Lv hp l o)(n:∀ es,o≠.fr es)(ob ob':Obj)(e:h.get? (W.ρ l)=some ob)(_:h'.get? (W.ρ l)=some ob')(q:frm ob=true):frm ob'=true:=match R.obj _ _ v with
 |.mk _ g r=>Bool.noConfusion (q.symm.trans (Option.some.inj (g.symm.trans e)▸r.nofrm n))
theorem OR.upto {o:O}{x:Addr}{ob ob':Obj}(r:OR P W o ob)(u:Upto x ob ob'):OR P W o ob':=by
 cases u with
 |id=>exact r
 |sl f s=>cases o with
  |fr es=>exact match ob,(r:OFr (ER P W es) ob)with|_,.mk c en n d=>.mk c en n d
  |_=>exact Bool.noConfusion (f.symm.trans (kH (OR.nofrm (by intro es q;cases q) r)))
theorem Rel.freeze (R:Rel P W hp h){l:Nat}{o:O}{d:D}{ob:Obj}(v:Lv hp l o)(g:h.get? (W.ρ l)=some ob)(hn:frm ob=false)(hd:DR P (W.freeze (W.ρ l) ob).fz d (.ref (W.ρ l))):
  Vw P W hp h ((hp.set l .gone).map (O.mp (sb l d) id)) (sb l d) id:=
 have z:=R.cold _ _ v
 have le:=Wd.le_freeze (o:=ob) z
 have m:Mv P W (W.freeze (W.ρ l) ob) (sb l d) id fun _=>true:=⟨fun k _ q=>by
  unfold sb
  cases e:Nat.beq k l with
  |true=>exact Nat.eq_of_beq_eq_true e▸hd
  |false=>exact⟨q,rfl⟩,fun _ _=>id,fun _ _ _=>rfl,le.fz⟩
 have pk:∀ k o1,Lv ((hp.set l .gone).map (O.mp (sb l d) id)) k o1→From P W hp h (W.freeze (W.ρ l) ob) (id k) k o1:=fun k o1 x=>match x.mapped with
  |.mk o2 y=>match y.set with
   |.inl ⟨_,e'⟩=>nomatch (e'▸y.v:O.live .gone=true)
   |.inr ⟨n,y⟩=>.mk o2 y rfl ((R.obj _ _ y).imp (fun _=>id) fun _=>OR.go m (O.cl_all o2)) ((if_neg fun q=>n (R.inj _ _ _ _ y v q)).trans (R.cold _ _ y))
 .mk _ (R.via (k:=id) (by rw[List.length_map,List.length_set];exact R.len) (fun a o1 e=>by
   by_cases q:a=W.ρ l
   ·subst q;rw[← Option.some.inj ((if_pos rfl).symm.trans e)];exact g
   ·exact R.fz _ _ ((if_neg q).symm.trans e)) (Wd.nf_freeze R.nf hn) pk fun _ _ _ _=>id)
  ⟨le,fun a o1 e=>⟨fun _=>.here e,From.live pk,.here e,fun o2 f=>by
   by_cases q:a=W.ρ l
   ·exact .inr (.mk l o v q.symm)
   ·exact .inl ((if_neg q).symm.trans f)⟩⟩ m fun a n c=>⟨fun x=>n (From.live pk x),(if_neg fun q=>n (.mk l o v q.symm)).trans c⟩
theorem O.dt_ok {fz:Addr→Option Obj}(hz:∀ a o,W.fz a=some o→fz a=some o){a:Addr}{o:O}{d:D}{ob:Obj}(e:o.dt=some d)(r:OR P W o ob)(f:fz a=some ob):DR P fz d (.ref a):=by
 cases o with
 |lst xs=>exact match(r:OSeq "list" (VRs P W xs) ob),f with|.mk vs n q,f=>(aS e).elim fun _ x=>x.2 ▸ .mk _ vs n f (DRs.mono hz (lT q x.1))
 |tup xs=>exact match(r:OSeq "tuple" (VRs P W xs) ob),f with|.mk vs n q,f=>(aS e).elim fun _ x=>x.2 ▸ .mk _ vs n f (DRs.mono hz (lT q x.1))
 |ns es=>exact match(r.2:ONs (ER P W es) ob),f with|.mk en n q,f=>(aS e).elim fun _ x=>x.2 ▸ .mk _ en n f (DRe.mono hz (wZ q x.1))
 |dls xs=>exact match(r:OSeq "list" (DRs P W.fz xs) ob),f with|.mk vs n q,f=>Option.some.inj e ▸ .mk _ vs n f (DRs.mono hz q)
 |_=>cases e
theorem O.dt_fr {o:O}{d:D}(e:o.dt=some d)(es:List (Nm×V)):o≠.fr es:=fun q=>by rw[q]at e;cases e
theorem O.dt_live {o:O}{d:D}(h:o.dt=some d):o.live=true:=by
 cases o with
 |gone=>cases h
 |_=>rfl
theorem Ar (R:Rel P W hp h){l:Nat}{d:D}(e:p5 l hp=some d):Vw P W hp h ((hp.set l .gone).map (O.mp (sb l d) id)) (sb l d) id:=
 (aJ e).elim fun o q=>have v:Lv hp l o:=⟨q.1,O.dt_live q.2⟩;match R.obj _ _ v with
  |.mk _ g r=>R.freeze v g (r.nofrm (O.dt_fr q.2)) (O.dt_ok (Wd.le_freeze (R.cold _ _ v)).fz q.2 r (if_pos rfl))
noncomputable def JQ:List Nat→Nat→Option Nat
 | [],_=>none
 |x::r,l=>match Nat.beq x l with
  |true=>some 0
  |false=>(JQ r l).map (· +1)
noncomputable def dT (σ:List Nat)(l:Nat):Bool:=(JQ σ l).isSome
noncomputable def kr (σ:List Nat)(l:Nat):Nat:=(JQ σ l).getD 0
noncomputable def kept (σ:List Nat)(hp:List O):List O:=σ.map fun l=>(hp[l]?.getD .gone).ren (kr σ)
noncomputable def e9 (σ:List Nat)(hp:List O):Bool:=σ.all fun l=>(hp[l]?.getD .gone).cl (dT σ)
noncomputable def Fk:List Nat→Bool
 | []=>true
 |x::r=> !dT r x&&Fk r
noncomputable def p6 (σ:List Nat)(i:Nat):Nat:=σ[i]?.getD 0
noncomputable def gB (W:Wd)(σ:List Nat):Wd:=⟨σ.length,fun i=>W.ρ (p6 σ i),W.fz⟩
theorem uK:∀ {σ:List Nat} {l i:Nat},JQ σ l=some i→σ[i]? =some l
 |x::r,l,i,e=>by
  unfold JQ at e
  cases q:Nat.beq x l with
  |true=>rw[q]at e;exact Option.some.inj e▸congrArg some (Nat.eq_of_beq_eq_true q)
  |false=>rw[q]at e;exact(aS e).elim fun j z=>z.2▸uK (σ:=r) z.1
theorem uL:∀ {σ:List Nat} {l:Nat},l∈σ→dT σ l=true
 |x::r,l,m=>by
  unfold dT JQ
  cases q:Nat.beq x l with
  |true=>rfl
  |false=>
   have:l∈r:=(List.mem_cons.mp m).elim (fun e=>by rw[e,Nat.beq_refl]at q;cases q) id
   exact(Option.isSome_map ..).trans (uL this)
theorem JR:∀ {σ:List Nat},Fk σ=true→σ.Nodup
 | [],_=>List.nodup_nil
 |x::r,e=>List.nodup_cons.mpr ⟨fun m=>(nomatch (uL m).symm.trans ((Bool.not_eq_true' _).mp (Bool.and_eq_true_iff.mp e).1)),JR (Bool.and_eq_true_iff.mp e).2⟩
theorem JU {σ:List Nat}{l:Nat}(e:dT σ l=true):σ[kr σ l]? =some l:=(Option.isSome_iff_exists.mp e).elim fun i q=>by
 unfold kr;rw[q];exact uK q
theorem Oh {σ:List Nat}{l:Nat}(e:dT σ l=true):kr σ l<σ.length:=(List.getElem?_eq_some_iff.mp (JU e)).1
theorem iY {σ:List Nat}{i l:Nat}(e:σ[i]? =some l):p6 σ i=l:=congrArg (·.getD 0) e
theorem mC (P:Params)(W:Wd)(σ:List Nat):Mv P W (gB W σ) (fun l=>.ref (kr σ l)) (kr σ) (dT σ):=.ren (fun _ c _=>Oh c) (fun _ c _=>congrArg W.ρ (iY (JU c))) fun _ _=>id
theorem Lv.kept {σ:List Nat}{i:Nat}{o':O}(x:Lv (kept σ hp) i o'):∃ l o,σ[i]? =some l∧Lv hp l o∧o'=o.ren (kr σ)∧hp[l]?.getD .gone=o:=by
 obtain⟨l,h1,h2⟩:=aS (List.getElem?_map.symm.trans x.e)
 have hv:=h2.symm▸x.v
 cases q:hp[l]? with
 |none=>rw[q]at hv;cases hv
 |some o=>rw[q]at h2 hv;exact⟨l,o,h1,⟨q,(O.live_mp o).symm.trans hv⟩,h2.symm,by rw[q];rfl⟩
theorem g7 {σ:List Nat}(R:Rel P W hp h)(cl:e9 σ hp=true)(i:Nat)(o':O)(x:Lv (kept σ hp) i o'):From P W hp h (gB W σ) (p6 σ i) i o':=
 match x.kept with
 |⟨l,o,h1,h2,h3,h4⟩=>by
  have e:=iY h1
  have c:=List.all_eq_true.mp cl l (List.mem_of_getElem? h1)
  rw[h4]at c
  exact .mk o (e.symm▸h2) rfl (h3▸e.symm ▸ (R.obj _ _ h2).imp (fun _=>id) fun _=>OR.go (mC P W σ) c) (e.symm▸R.cold _ _ h2)
theorem Rel.keep {σ:List Nat}(R:Rel P W hp h)(nd:Fk σ=true)(cl:e9 σ hp=true):Rel P (gB W σ) (kept σ hp) h:=
 R.via (k:=p6 σ) (List.length_map ..).symm R.fz R.nf (g7 R cl) fun i j hi hj e=>by
  have hi':σ[i]? =some (p6 σ i):=by unfold p6;rw[List.getElem?_eq_getElem hi];rfl
  have hj':σ[j]? =some (p6 σ j):=by unfold p6;rw[List.getElem?_eq_getElem hj];rfl
  exact(List.getElem?_inj hi (JR nd)).mp (hi'.trans ((congrArg some e).trans hj'.symm))
theorem Ext.keep {W0:Wd}{hp0:List O}{h0:Heap}{τ:List Nat}(E:Ext W0 hp0 h0 W hp h)(R:Rel P W hp h)(cl:e9 (List.range W0.n++τ) hp=true):Ext W0 hp0 h0 (gB W (List.range W0.n++τ)) (kept (List.range W0.n++τ) hp) h:=
 have at_:∀ l,l<W0.n→p6 (List.range W0.n++τ) l=l:=fun l q=>iY (by rw[List.getElem?_append_left (by simpa using q)];exact List.getElem?_range q)
 ⟨⟨by show _≤(List.range W0.n++τ).length;rw[List.length_append,List.length_range];exact Nat.le_add_right _ _,fun l q=>(congrArg W.ρ (at_ l q)).trans (E.le.ρ l q),E.le.fz⟩,
  fun a o e=>let X:=E.at_ a o e;⟨X.keep,fun x=>X.live (From.live (g7 R cl) x),X.ex,X.cool⟩⟩
noncomputable def rn (σ:List Nat)(k i:Nat):Nat:=match σ[i]? with
 |some l=>l
 |none=>k+(i-σ.length)
noncomputable def zO (f:Nat→O→O):Nat→List O→List O
 |_,[]=>[]
 |n,x::r=>f n x::zO f (n+1) r
theorem w4 (f:Nat→O→O):∀ (n i:Nat) (xs:List O),(zO f n xs)[i]? =xs[i]?.map (f (n+i))
 |_,_,[]=>rfl
 |_,0,_::_=>rfl
 |n,i+1,_::r=>(w4 f (n+1) i r).trans (by rw[Nat.add_right_comm];rfl)
theorem gC (f:Nat→O→O):∀ (n:Nat) (xs:List O),(zO f n xs).length=xs.length
 |_,[]=>rfl
 |n,_::r=>congrArg (· +1) (gC f (n+1) r)
noncomputable def KY (σ:List Nat)(k:Nat)(hpS:List O)(l:Nat)(o:O):O:=match JQ σ l with
 |some i=>(hpS[i]?.getD .gone).ren (rn σ k)
 |none=>o
noncomputable def dU (σ:List Nat)(hp hpS:List O):List O:=zO (KY σ hp.length hpS) 0 hp++(hpS.drop σ.length).map (O.ren (rn σ hp.length))
noncomputable def KZ (W WS:Wd)(σ:List Nat):Wd:=⟨W.n+(WS.n-σ.length),fun l=>if l<W.n then W.ρ l else WS.ρ (σ.length+(l-W.n)),WS.fz⟩
inductive MrgA (σ:List Nat) (k:Nat) (hpS:List O) (l:Nat):O→Prop
 |mk (i:Nat) (o:O) (v:Lv hpS i o) (e:l=rn σ k i):MrgA σ k hpS l (o.ren (rn σ k))
theorem JV {σ:List Nat}{k i l:Nat}(e:σ[i]? =some l):rn σ k i=l:=by unfold rn;rw[e]
theorem As {σ:List Nat}{k i:Nat}(e:σ.length≤i):rn σ k i=k+(i-σ.length):=by unfold rn;rw[List.getElem?_eq_none e]
theorem gD {σ:List Nat}{l:Nat}{o:O}(x:Lv (dU σ hp hpS) l o):MrgA σ hp.length hpS l o∨(dT σ l=false∧l<hp.length∧Lv hp l o):=by
 have e:=x.e
 unfold dU at e
 by_cases q:l<hp.length
 ·rw[List.getElem?_append_left (by rw[gC];exact q),w4,Nat.zero_add]at e
  obtain⟨o0,h1,h2⟩:=aS e
  unfold KY at h2
  cases z:JQ σ l with
  |some i=>
   rw[z]at h2
   have h2:(hpS[i]?.getD .gone).ren (rn σ hp.length)=o:=h2
   cases y:hpS[i]? with
   |none=>rw[y]at h2;exact nomatch (h2▸x.v:O.live (O.ren (rn σ hp.length) .gone)=true)
   |some oS=>rw[y]at h2;exact h2 ▸ .inl (.mk i oS ⟨y,(O.live_mp oS).symm.trans (h2.symm▸x.v)⟩ (JV (uK z)).symm)
  |none=>
   rw[z]at h2
   exact .inr ⟨by unfold dT;rw[z];rfl,q,h2▸h1,x.v⟩
 ·rw[List.getElem?_append_right (by rw[gC];exact Nat.le_of_not_lt q),gC,List.getElem?_map,List.getElem?_drop]at e
  obtain⟨oS,h1,h2⟩:=aS e
  subst h2
  exact .inl (.mk _ oS ⟨h1,(O.live_mp oS).symm.trans x.v⟩ (by rw[As (Nat.le_add_right _ _),Nat.add_sub_cancel_left,Nat.add_sub_cancel' (Nat.le_of_not_lt q)]))
inductive Mrg (P:Params) (W:Wd) (hp:List O) (h:Heap) (WS:Wd) (hpS:List O) (h':Heap) (σ:List Nat):Prop
 |mk (W':Wd) (R:Rel P W' (dU σ hp hpS) h') (E:Ext W hp h W' (dU σ hp hpS) h') (m:Mv P WS W' (fun l=>.ref (rn σ hp.length l)) (rn σ hp.length) fun _=>true)
theorem Fm {σ:List Nat}(R:Rel P W hp h)(lt:∀ l∈σ,l<hp.length)(cl:e9 σ hp=true)(R':Rel P WS hpS h')(E:Ext (gB W σ) (kept σ hp) h WS hpS h'):Mrg P W hp h WS hpS h' σ:=by
 have hn:σ.length≤WS.n:=E.le.n
 have lo:∀ l,l<W.n→(KZ W WS σ).ρ l=W.ρ l:=fun l q=>if_pos q
 have le:W.le (KZ W WS σ):=⟨Nat.le_add_right _ _,lo,E.le.fz⟩
 have at_:∀ i,i<WS.n→rn σ hp.length i < (KZ W WS σ).n∧(KZ W WS σ).ρ (rn σ hp.length i)=WS.ρ i:=fun i hi=>by
  by_cases q:i<σ.length
  ·have e:σ[i]? =some σ[i]:=List.getElem?_eq_getElem q
   have q':σ[i]<W.n:=R.len▸lt _ (List.getElem_mem q)
   rw[JV e,lo _ q',E.le.ρ i q]
   exact⟨Nat.lt_of_lt_of_le q' le.n,congrArg W.ρ (iY e).symm⟩
  ·have q:=Nat.le_of_not_lt q
   rw[As q,← R.len]
   refine⟨Nat.add_lt_add_left (Nat.sub_lt_sub_right q hi) _,(if_neg (Nat.not_lt.mpr (Nat.le_add_right _ _))).trans ?_⟩
   rw[Nat.add_sub_cancel_left,Nat.add_sub_cancel' q]
 have m:Mv P WS (KZ W WS σ) (fun l=>.ref (rn σ hp.length l)) (rn σ hp.length) fun _=>true:=.ren (fun i _ q=>(at_ i q).1) (fun i _ q=>(at_ i q).2) fun _ _=>id
 have sm:∀ {a:Addr},Live (gB W σ) (kept σ hp) a→Live W hp a:=From.live (g7 R cl)
 have apart:∀ l o,dT σ l=false→Lv hp l o→¬ Live (gB W σ) (kept σ hp) (W.ρ l):=fun l o hi v x=>match x with
  |.mk i o' y e=>match y.kept with
   |⟨l',o2,h1,h2,_,_⟩=>by
    obtain rfl:l'=l:=R.inj _ _ _ _ h2 v ((congrArg W.ρ (iY h1)).symm.trans e)
    rw[uL (List.mem_of_getElem? h1)]at hi;cases hi
 have old:∀ l o,dT σ l=false→Lv hp l o→Got h' (W.ρ l) (OR P (KZ W WS σ) o)∧WS.fz (W.ρ l)=none∧¬ Live WS hpS (W.ρ l):=fun l o hi v=>match R.obj l o v with
  |.mk ob g r=>let X:=E.at_ _ _ g
   ⟨match X.keep (apart l o hi v)with|.mk ob' g' u=>.mk ob' g' ((OR.mono le r).upto u),match z:WS.fz (W.ρ l)with
    |none=>rfl
    |some o'=>(X.cool o' z).elim (fun f=>(eG f (R.cold _ _ v)).elim) fun x=>absurd x (apart l o hi v),fun x=>apart l o hi v (X.live x)⟩
 refine .mk (KZ W WS σ) ⟨?_,fun l o v=>?_,fun l o v=>?_,fun l l' o o' v v' e=>?_,R'.fz,R'.nf⟩ ⟨le,fun a o e=>let X:=E.at_ a o e;⟨fun n=>X.keep fun x=>n (sm x),fun x=>?_,X.ex,fun o' f=>(X.cool o' f).imp id sm⟩⟩ m
 ·unfold dU
  rw[List.length_append,gC,List.length_map,List.length_drop,← R'.len,← R.len];rfl
 ·match gD v with
  |.inl (.mk i oS y e)=>exact e ▸ (at_ i (R'.lt y)).2 ▸ (R'.obj _ _ y).imp (fun _=>id) fun _=>OR.go m (O.cl_all oS)
  |.inr ⟨a,b,y⟩=>exact(lo l (R.len▸b)).symm ▸ (old l o a y).1
 ·match gD v with
  |.inl (.mk i oS y e)=>exact e ▸ (at_ i (R'.lt y)).2▸R'.cold _ _ y
  |.inr ⟨a,b,y⟩=>exact(lo l (R.len▸b)).symm ▸ (old l o a y).2.1
 ·match gD v,gD v' with
  |.inl (.mk i oS y q),.inl (.mk i' oS' y' q')=>
   subst q q'
   rw[(at_ i (R'.lt y)).2,(at_ i' (R'.lt y')).2]at e
   rw[R'.inj _ _ _ _ y y' e]
  |.inl (.mk i oS y q),.inr ⟨a,b,y'⟩=>exact absurd (.mk i oS y ((at_ i (R'.lt y)).2.symm.trans (q▸e.trans (lo l' (R.len▸b))))) (old l' _ a y').2.2
  |.inr ⟨a,b,y⟩,.inl (.mk i oS y' q)=>exact absurd (.mk i oS y' ((at_ i (R'.lt y')).2.symm.trans (q▸e.symm.trans (lo l (R.len▸b))))) (old l _ a y).2.2
  |.inr ⟨_,b,y⟩,.inr ⟨_,b',y'⟩=>exact R.inj _ _ _ _ y y' ((lo l (R.len▸b)).symm.trans (e.trans (lo l' (R.len▸b'))))
 ·match x with
  |.mk l o1 v q=>match gD v with
   |.inl (.mk i oS y z)=>exact sm (X.live (.mk i oS y ((at_ i (R'.lt y)).2.symm.trans (z▸q))))
   |.inr ⟨_,b,y⟩=>exact .mk l o1 y ((lo l (R.len▸b)).symm.trans q)
end
end
section
noncomputable def nb:Nm→Nm→Bool
 | [],[]=>true
 |a::x,b::y=>match Nat.beq a b with
  |true=>nb x y
  |false=>false
 | [],_::_=>false
 |_::_,[]=>false
theorem bO:∀ {x y:Nm},nb x y=true→x=y
 | [],[],_=>rfl
 |a::x,b::y,h=>by
  unfold nb at h
  cases e:Nat.beq a b with
  |true=>rw[e]at h;rw[Nat.eq_of_beq_eq_true e,bO (x:=x) h]
  |false=>rw[e]at h;cases h
theorem iZ:∀ x:Nm,nb x x=true
 | []=>rfl
 |a::x=>by unfold nb;rw[Nat.beq_refl];exact iZ x
theorem oU {x y:Nm}(h:nb x y=false):x≠y:=fun e=>nomatch (e▸h).symm.trans (iZ y)
noncomputable def lk {α:Type}:List (Nm×α)→Nm→Option α
 | [],_=>none
 |p::r,x=>match nb p.1 x with
  |true=>some p.2
  |false=>lk r x
noncomputable def pt {α:Type}:List (Nm×α)→Nm→α→List (Nm×α)
 | [],x,v=>[(x,v)]
 |p::r,x,v=>match nb p.1 x with
  |true=>(p.1,v)::r
  |false=>p::pt r x v
theorem mD (x y:Nm)(t:Tok):(Value.str (st x) t).isStr (st y)=nb x y:=by
 show(st x==st y)=_
 cases e:nb x y with
 |true=>rw[bO e];exact beq_self_eq_true _
 |false=>exact beq_eq_false_iff_ne.mpr fun q=>oU e (mB q)
noncomputable def lC (n:Str):List DictEntry→Option Value
 | []=>none
 |e::r=>match e.key.isStr n with
  |true=>some e.val
  |false=>lC n r
theorem gE (n:Str):∀ en:List DictEntry,(List.find? (fun e:DictEntry=>e.key.isStr n) en).map (·.val)=lC n en
 | []=>rfl
 |e::r=>by
  rw[List.find?_cons,lC]
  cases e.key.isStr n with
  |true=>rfl
  |false=>exact gE n r
theorem mE (n:Str)(en:List DictEntry):nsFind en.toArray n=lC n en:=(congrArg (Option.map _) (List.find?_toArray _ _)).trans (gE n en)
section
variable {P:Params}{W:Wd}
theorem Ent.key {x:Nm}{R:Value→Prop}{e:DictEntry}(y:Nm):Ent P x R e→e.key.isStr (st y)=nb x y
 |.mk _ t _ k _=>by rw[k];exact mD x y t
theorem Ent.val {x:Nm}{R:Value→Prop}{e:DictEntry}:Ent P x R e→R e.val
 |.mk _ _ _ _ r=>r
theorem ER.keys:∀ {es:List (Nm×V)} {en:List DictEntry},ER P W es en→∀ e∈en,∃ n t,e.key=.str n t
 | [],_,h,_,m=>nomatch ((h:_=[])▸m)
 |_::_,_,.mk a r,_,m=>match List.mem_cons.mp m,a with
  |.inl q,.mk _ t _ k _=>⟨_,t,q▸k⟩
  |.inr q,_=>ER.keys r _ q
theorem ER.skeys {es:List (Nm×V)}{en:List DictEntry}(h:ER P W es en):StrKeys en.toArray:=fun e m=>h.keys e (List.mem_toArray.mp m)
theorem ER.find:∀ {es:List (Nm×V)} {en:List DictEntry} {x:Nm} {v:V},ER P W es en→lk es x=some v→∃ u,lC (st x) en=some u∧VR P W v u
 | [],_,_,_=>fun _ h=>nomatch h
 |p::_,_,x,_=>fun w h=>by
  obtain⟨e,_,rfl,a,r⟩:=Two.out w
  unfold lk at h
  unfold lC
  rw[a.key x]
  cases q:nb p.1 x with
  |true=>rw[q]at h;exact⟨_,rfl,Option.some.inj h▸a.val⟩
  |false=>rw[q]at h;exact ER.find r h
theorem ER.miss:∀ {es:List (Nm×V)} {en:List DictEntry} {x:Nm},ER P W es en→lk es x=none→lC (st x) en=none
 | [],_,_=>fun h _=>(h:_=[])▸rfl
 |p::_,_,x=>fun w h=>by
  obtain⟨e,_,rfl,a,r⟩:=Two.out w
  unfold lk at h
  unfold lC
  rw[a.key x]
  cases q:nb p.1 x with
  |true=>rw[q]at h;cases h
  |false=>rw[q]at h;exact ER.miss r h
theorem ER.put {x:Nm}{v:V}{u:Value}{t:Tok}(hv:VR P W v u):∀ {es:List (Nm×V)} {en:List DictEntry},ER P W es en→ER P W (pt es x v) (putL (st x) (PyData.keyHash P (st x)) (.str (st x) t) u en)
 | [],_,h=>(h:_=[]) ▸ .mk (.mk _ t rfl rfl hv) rfl
 |p::r,_,.mk (a:=e) a q=>by
  unfold pt putL
  rw[a.key x]
  cases nb p.1 x with
  |true=>exact .mk (match a with|.mk _ t h k _=>.mk _ t h k hv) q
  |false=>exact .mk a (ER.put hv q)
end
theorem uM {α:Type}(x:Nm)(v:α):∀ es:List (Nm×α),(pt es x v).length≤es.length+1
 | []=>Nat.le_refl _
 |p::r=>by
  unfold pt
  cases nb p.1 x with
  |true=>exact Nat.le_succ _
  |false=>exact Nat.succ_le_succ (uM x v r)
theorem w5 {α:Type}(x:Nm)(v:α){y:Nm}:∀ {es:List (Nm×α)},y∈(pt es x v).map (·.1)→y=x∨y∈es.map (·.1)
 | [],h=>.inl (List.mem_singleton.mp h)
 |p::r,h=>by
  unfold pt at h
  cases q:nb p.1 x with
  |true=>rw[q]at h;exact .inr h
  |false=>rw[q]at h;exact(List.mem_cons.mp h).elim (fun e=>.inr (e ▸ .head _)) fun m=>(w5 x v m).imp id (.tail _)
theorem gG {α:Type}(x:Nm)(v:α):∀ {es:List (Nm×α)},(es.map (·.1)).Nodup→((pt es x v).map (·.1)).Nodup
 | [],_=>List.nodup_cons.mpr ⟨List.not_mem_nil,List.nodup_nil⟩
 |p::r,h=>by
  unfold pt
  cases q:nb p.1 x with
  |true=>exact h
  |false=>exact List.nodup_cons.mpr ⟨fun m=>(w5 x v m).elim (oU q) (List.nodup_cons.mp h).1,gG x v (List.nodup_cons.mp h).2⟩
structure Cl where
 adr:Nat
 meths:List (Nm×Nat)
 fields:List Nm
 consts:List (Nm×V)
structure TI where
 adr:Nat
 c:Nat
 d:Nat
 es:List (Nm×V)
structure Gam where
 glob:List (Nm×V)
 cls:List Cl
 tops:List TI
 kws:List (Nat×Nm×List Nm)
 blts:List (Nm×V)
noncomputable def W0 (K:Frag):Wd:=⟨0,fun _=>0,fun a=>K.lookup a⟩
noncomputable def bM (x:Nm)(l:List Nm):Bool:=l.any fun y=>nb y x
structure MethOk (K:Frag) (C:Addr) (m:Nm) (f:Nat):Prop where
 find:findIn K (.ref C) (st m)=some (some (.ref f))
 type:typeIn K (.ref f)=some (.type "function")
 get:specialIn K (.ref f) "__get__" =some (some (.builtin "function.__get__"))
 takes:takesIn K (.ref f)=some false
 copied:copiedNames.contains (st m)=false
inductive ConstOk (P:Params) (K:Frag) (C:Addr) (a:Nm) (v:V):Prop
 |mk (u:Value) (find:findIn K (.ref C) (st a)=some (some u)) (get:specialIn K u "__get__" =some none) (handed:handedIn u=true) (copied:copiedNames.contains (st a)=false) (r:VR P (W0 K) v u)
structure ClOk (P:Params) (K:Frag) (a:Addr) (c:Cl):Prop where
 get:plainGet K a Str.empty=true
 dict:hasDictIn K a=true
 over:plainOver K a=true
 set:findIn K (.ref a) "__setattr__" =some (some (.builtin "object.__setattr__"))
 makes:makesIn K a=true
 keep:keepIn K (.ref a)=true
 fields:∀ x,bM x c.fields=true→findIn K (.ref a) (st x)=some none
 meths:∀ m f,lk c.meths m=some f→MethOk K a m f
 consts:∀ x v,lk c.consts x=some v→ConstOk P K a x v
inductive NsK (K:Frag) (a:Addr) (p:Array DictEntry→Prop):Prop
 |mk (o:Obj) (es:Array DictEntry) (ep:Nat) (l:K.lookup a=some o) (d:o.data=.dict es ep) (k:StrKeys es) (q:p es)
inductive TiOk (P:Params) (K:Frag) (t:TI):Prop
 |mk (en:List DictEntry) (k:Nat) (E:ER P (W0 K) t.es en) (g:K.lookup t.d=some ⟨.type "dict",none,.dict en.toArray k,#[]⟩) (a:K.lookup t.adr=some ⟨.ref t.c,some t.d,.plain,#[]⟩)
noncomputable def Au:Nm:=[98,117,105,108,116,105,110,115]
inductive ModsOk (K:Frag):Prop
 |mk (e:DictEntry) (r:List DictEntry) (n:Nat) (t:Tok) (l:K.lookup sysModules=some ⟨.type "dict",none,.dict (e::r).toArray n,#[]⟩) (k:e.key=.str (st Au) t)
noncomputable def mF:List Nm→List Value→List (Str×Value)
 |x::xs,v::vs=>(st x,v)::mF xs vs
 |_,_=>[]
noncomputable def CelR (W:Wd)(cs:List (Nm×Nat))(ca:List (Str×Addr)):Prop:=∀ x l,lk cs x=some l→l<W.n∧ca.lookup (st x)=some (W.ρ l)
inductive KwOk (K:Frag) (a:Nat) (x:Nm) (ks:List Nm):Prop
 |mk (o:Obj) (fd:FuncData) (at_:K.lookup a=some o) (d:o.data=.func fd) (p:fd.params.args.map (fun y=>y.arg.cps.toList)=x::ks)
  (bind:∀ (s:Shared) (v:Value) (us:List Value),K.In s.heap→us.length=ks.length→BindsTo s fd ⟨[v],mF ks us⟩ (mF (x::ks) (v::us)))
structure Top (P:Params) (K:Frag) (G:Gam):Prop where
 old:∃ o,K.lookup rV=some o
 mods:ModsOk K
 kws:∀ k∈G.kws,KwOk K k.1 k.2.1 k.2.2
 cls:∀ c∈G.cls,ClOk P K c.adr c
 tops:∀ t∈G.tops,TiOk P K t
 main:NsK K mainGlobals fun es=>(∀ x v,lk G.glob x=some v→∃ u,nsFind es (st x)=some u∧VR P (W0 K) v u)∧∀ x v,lk G.blts x=some v→nsFind es (st x)=none
 blt:NsK K builtinsNs fun es=>∀ x v,lk G.blts x=some v→∃ u,nsFind es (st x)=some u∧VR P (W0 K) v u
 lim:NsK K cStatics fun es=>nsFind es "sys.recursionlimit" =none
structure Cx where
 prog:Program
 w:World
 K:Frag
 G:Gam
 top:Top w.params K G
noncomputable abbrev Cx.P (c:Cx):Params:=c.w.params
noncomputable abbrev Cx.M (c:Cx):Model:=model c.prog c.w
noncomputable abbrev no:Value→Shared→Prop:=fun _ _=>False
noncomputable abbrev Cx.wp (c:Cx){α:Type}(A:Around)(m:Sem α)(Q:α→Shared→Prop)(s:Shared):Prop:=wpAny (model c.prog c.w) A m Q no s
structure Room (n:Nat) (A:Around):Prop where
 hd:A.handled=none
 dp:A.depth+10*n≤900
 un:A.units+20*n≤9000
theorem Room.less {n m:Nat}{A:Around}(h:Room n A)(l:m≤n):Room m A:=⟨h.hd,Nat.le_trans (Nat.add_le_add_left (Nat.mul_le_mul_left 10 l) _) h.dp,Nat.le_trans (Nat.add_le_add_left (Nat.mul_le_mul_left 20 l) _) h.un⟩
theorem dL {a b n k c:Nat}(h:a+k * (n+1)≤c)(l:b≤k):a+b+k*n≤c:=by
 rw[Nat.mul_succ]at h
 lia
theorem Room.deeper {n:Nat}{A:Around}{env:Env}(h:Room (n+1) A):Room n (A.deeper env):=⟨h.hd,dL h.dp (by decide),dL h.un (by decide)⟩
theorem Room.in1 {n:Nat}{A:Around}(h:Room (n+1) A):Room n A.in1:=⟨h.hd,Nat.le_trans (Nat.le_trans (by show A.depth+10*n≤A.depth+0+10*n;exact Nat.le_refl _) (dL (b:=0) h.dp (Nat.zero_le _))) (Nat.le_refl _),dL h.un (by decide)⟩
theorem Room.under {n:Nat}{A:Around}{c:Code}(h:Room (n+1) A)(h1:c.weight≤10)(h2:c.cUnits≤20):Room n (A.under c):=⟨h.hd,dL h.dp h1,dL h.un h2⟩
theorem Room.rl {n:Nat}{A:Around}(h:Room n A):A.depth<recursionLimit:=Nat.lt_of_le_of_lt (Nat.le_trans (Nat.le_add_right _ _) h.dp) (by decide)
structure GenS (a b:Array GenState):Prop where
 size:a.size≤b.size
 keep:∀ g,g<a.size→b[g]? =a[g]?
 bare:∀ i y,a.size≤i→b[i]? =some y→y.bare=true
theorem GenS.refl (a:Array GenState):GenS a a:=⟨Nat.le_refl _,fun _ _=>rfl,fun _ _ h e=>(eG e (Array.getElem?_eq_none h)).elim⟩
theorem GenS.trans {a b c:Array GenState}(x:GenS a b)(y:GenS b c):GenS a c:=⟨Nat.le_trans x.size y.size,fun g h=>(y.keep g (Nat.lt_of_lt_of_le h x.size)).trans (x.keep g h),fun i z h e=>
 (Nat.lt_or_ge i b.size).elim (fun q=>x.bare i z h ((y.keep i q).symm.trans e)) fun q=>y.bare i z q e⟩
structure Lat (W:Wd) (hp:List O) (s:Shared) (W':Wd) (hp':List O) (s':Shared):Prop where
 e:Ext W hp s.heap W' hp' s'.heap
 g:GenS s.gens s'.gens
 o:s'.os=s.os
section
variable {W W' W'':Wd}{hp hp' hp'':List O}{s s' s'':Shared}
theorem Lat.refl (W:Wd)(hp:List O)(s:Shared):Lat W hp s W hp s:=⟨.refl ..,.refl _,rfl⟩
theorem Lat.trans (x:Lat W hp s W' hp' s')(y:Lat W' hp' s' W'' hp'' s''):Lat W hp s W'' hp'' s'':=⟨x.e.trans y.e,x.g.trans y.g,y.o.trans x.o⟩
theorem Lat.le (x:Lat W hp s W' hp' s'):W.le W':=x.e.le
theorem Lat.of {h':Heap}{t:Nat}(e:Ext W hp s.heap W' hp' h'):Lat W hp s W' hp' {s with heap:=h',toks:=t}:=⟨e,.refl _,rfl⟩
end
noncomputable abbrev RT (β α:Type):=Wd→β→α→Prop
inductive Post (c:Cx) {α β:Type} (RR:RT β α) (W:Wd) (hp:List O) (s:Shared) (b:β) (hp':List O) (a:α) (s':Shared):Prop
 |mk (W':Wd) (r:Rel c.P W' hp' s'.heap) (l:Lat W hp s W' hp' s') (x:RR W' b a)
inductive FrAt (h:Heap) (env:Env):Prop
 |mk (L:Addr) (o:Obj) (k:env.scope.kind≠.module) (f:env.frame=some L) (g:h.get? L=some o) (m:iC L o=true)
inductive Fs (A:Around) (h:Heap):Prop
 |mk (l:List Env) (e:A.frames=some l) (a:∀ env∈l,FrAt h env)
theorem FrAt.ext {W W':Wd}{hp hp':List O}{h h':Heap}{env:Env}(E:Ext W hp h W' hp' h'):FrAt h env→FrAt h' env
 |.mk L o k f g m=>(by rcases(E.at_ L o g).ex with⟨o',g',f'⟩;exact .mk L o' k f g' (KW f' m))
theorem Fs.ext {A:Around}{W W':Wd}{hp hp':List O}{h h':Heap}(E:Ext W hp h W' hp' h'):Fs A h→Fs A h'
 |.mk l e a=>.mk l e fun env m=>(a env m).ext E
theorem Fs.in1 {A:Around}{h:Heap}:Fs A h→Fs A.in1 h
 |.mk l e a=>.mk l e a
theorem Fs.out1 {A:Around}{h:Heap}:Fs A.in1 h→Fs A h
 |.mk l e a=>.mk l e a
theorem zP {d:Option Addr}{en:Array DictEntry}{n:Nat}{sl:Array (Option Value)}:frm ⟨.type "frame",d,.dict en n,sl⟩=true:=by
 show decide (("frame" :String)="frame")=true
 decide
theorem Fs.under {A:Around}{h:Heap}{c:Code}(q:pushEnvs c.envs A.frames=A.frames):Fs A h→Fs (A.under c) h
 |.mk l e a=>.mk l (q.trans e) a
theorem Fp {a:Addr}(hn:rV<a){d:Option Addr}{en:Array DictEntry}{n:Nat}{sl:Array (Option Value)}:iC a ⟨.type "frame",d,.dict en n,sl⟩=true:=by
 have e:Nat.beq a rV=false:=match q:Nat.beq a rV with
  |false=>rfl
  |true=>absurd (Nat.eq_of_beq_eq_true q) (Nat.ne_of_gt hn)
 unfold iC
 rw[e,zP];rfl
theorem FrAt.new {h:Heap}{env:Env}{en:Array DictEntry}{k:Nat}(hk:env.scope.kind=.function)(f:env.frame=some h.objs.size)(hn:rV<h.objs.size):FrAt (h.push ⟨.type "frame",none,.dict en k,#[]⟩) env:=
 .mk _ _ (by rw[hk];exact nofun) f (Heap.get?_push_size _ rfl) (Fp hn)
theorem Fs.deeper {A:Around}{h:Heap}{env:Env}(f:FrAt h env):Fs A h→Fs (A.deeper env) h
 |.mk l e a=>.mk (env::l) (congrArg (Option.map (env::·)) e) fun x m=>(List.mem_cons.mp m).elim (fun q=>q▸f) (a x)
structure At (c:Cx) (n:Nat) (A:Around) (W:Wd) (hp:List O) (s:Shared):Prop where
 room:Room n A
 rel:Rel c.P W hp s.heap
 kin:∀ a o,c.K.lookup a=some o→W.fz a=some o
 tk:0<s.toks
 fs:Fs A s.heap
theorem At.old {c:Cx}{n:Nat}{A:Around}{W:Wd}{hp:List O}{s:Shared}(z:At c n A W hp s):rV<s.heap.objs.size:=c.top.old.elim fun o e=>Heap.lt_size (z.rel.fz _ _ (z.kin _ _ e))
noncomputable abbrev Kp {α β:Type}(M:Model)(A:Around)(k:α→Sem β)(Q:β→Shared→Prop)(E:Value→Shared→Prop):α→Shared→Prop:=fun a s=>wpAny M A (k a) Q E s
theorem bK {α β:Type}{M:Model}{A:Around}{m:Sem α}{k:α→Sem β}{Q:β→Shared→Prop}{E:Value→Shared→Prop}{s:Shared}(h:wpAny M A m (Kp M A k Q E) E s):wpAny M A (m >>= k) Q E s:=wpAny_bind h
section
variable {c:Cx}{α β γ:Type}{RR:RT β α}{A:Around}{n:Nat}{W W':Wd}{hp hp' hp'':List O}{s s' s'':Shared}{a:α}{b:β}
theorem Post.later (l:Lat W hp s W' hp' s'):Post c RR W' hp' s' b hp'' a s''→Post c RR W hp s b hp'' a s''
 |.mk W2 r l2 x=>.mk W2 r (l.trans l2) x
theorem Post.here (z:At c n A W hp s)(x:RR W b a):Post c RR W hp s b hp a s:=.mk W z.rel (.refl ..) x
theorem Post.tok {t:Nat}(z:At c n A W hp s)(x:RR W b a):Post c RR W hp s b hp a {s with toks:=t}:=.mk W z.rel ⟨.refl ..,.refl _,rfl⟩ x
theorem At.le0 (z:At c n A W hp s):(W0 c.K).le W:=⟨Nat.zero_le _,fun _ q=>absurd q (Nat.not_lt_zero _),z.kin⟩
theorem At.In (z:At c n A W hp s):c.K.In s.heap:=fun a o e=>z.rel.fz a o (z.kin a o e)
theorem At.nolimit (z:At c n A W hp s):s.heap.NoLimit:=(by rcases c.top.lim with⟨o,es,ep,a,b,k,d⟩;exact⟨fun y=>nsFind es y,⟨o,es,ep,z.In _ _ a,b,k,fun _=>rfl⟩,d⟩)
theorem At.next (z:At c n A W hp s)(l:Lat W hp s W' hp' s')(r:Rel c.P W' hp' s'.heap)(t:s.toks≤s'.toks):At c n A W' hp' s':=⟨z.room,r,fun a o e=>l.le.fz a o (z.kin a o e),Nat.lt_of_lt_of_le z.tk t,z.fs.ext l.e⟩
theorem At.less {m:Nat}(z:At c n A W hp s)(l:m≤n):At c m A W hp s:=⟨z.room.less l,z.rel,z.kin,z.tk,z.fs⟩
theorem At.to {m:Nat}{B:Around}(z:At c n A W hp s)(l:Room m B)(f:Fs B s.heap):At c m B W hp s:=⟨l,z.rel,z.kin,z.tk,f⟩
theorem go {m:Sem α}{Z:α→Shared→Prop}(z:At c n A W hp s)(h:c.wp A m (Post c RR W hp s b hp') s)(k:∀ W' a s',At c n A W' hp' s'→Lat W hp s W' hp' s'→RR W' b a→Z a s'):c.wp A m Z s:=
 wpAny_with_toks (Nat.le_refl s.toks) (wpAny_mono h (fun a s' p t=>(by rcases p with⟨W',r,l,x⟩;exact k W' a s' (z.next l r t) l x)) fun _ _ x=>x.elim)
end
structure Fx where
 fr:Nat
 cs:List (Nm×Nat)
 own:Bool
structure FrR (W:Wd) (F:Fx) (env:Env):Prop where
 lt:F.fr<W.n
 loc:env.locals=W.ρ F.fr
 cel:∀ x l,lk F.cs x=some l→l<W.n∧env.cells.lookup (st x)=some (W.ρ l)
 kind:env.scope.kind=.function
 glob:env.globals=mainGlobals
 blt:env.builtins=builtinsNs
theorem FrR.mono {W W':Wd}{F:Fx}{env:Env}(h:W.le W')(x:FrR W F env):FrR W' F env:=
 ⟨Nat.lt_of_lt_of_le x.lt h.n,x.loc.trans (h.ρ _ x.lt).symm,fun y l e=>have q:=x.cel y l e;⟨Nat.lt_of_lt_of_le q.1 h.n,q.2.trans (congrArg some (h.ρ _ q.1).symm)⟩,x.kind,x.glob,x.blt⟩
noncomputable abbrev aG:=List (Str×NameKind)
structure AtF (c:Cx) (sc:aG) (n:Nat) (F:Fx) (hp:List O) (A:Around) (W:Wd) (s:Shared) (env:Env):Prop where
 a:At c n A W hp s
 f:FrR W F env
 sc:env.scope.names=sc
 top:F.own=true→∃ l,A.frames=some (env::l)
noncomputable def Run (c:Cx)(sc:aG)(n:Nat)(F:Fx)(hp:List O){α β:Type}(t:Env→Sem α)(RR:RT β α)(b:β)(hp':List O):Prop:=
 ∀ A W s env,AtF c sc n F hp A W s env→c.wp A (t env) (Post c RR W hp s b hp') s
section
variable {c:Cx}{sc:aG}{n:Nat}{F:Fx}{hp hp1:List O}{A:Around}{W W':Wd}{s s':Shared}{env:Env}{α β:Type}{t:Env→Sem α}{RR:RT β α}{b:β}
theorem AtF.next (z:AtF c sc n F hp A W s env)(l:Lat W hp s W' hp1 s')(a:At c n A W' hp1 s'):AtF c sc n F hp1 A W' s' env:=⟨a,z.f.mono l.le,z.sc,z.top⟩
theorem Run.go (h:Run c sc n F hp t RR b hp1)(z:AtF c sc n F hp A W s env){Z:α→Shared→Prop}(k:∀ W1 u s1,AtF c sc n F hp1 A W1 s1 env→Lat W hp s W1 hp1 s1→RR W1 b u→Z u s1):c.wp A (t env) Z s:=
 Tk.go z.a (h A W s env z) fun W1 u s1 a l x=>k W1 u s1 (z.next l a) l x
end
end
section
noncomputable def O.frE:O→Option (List (Nm×V))
 |.fr es=>some es
 |_=>none
noncomputable def O.nsE:O→Option (List (Nm×V))
 |.ns es=>some es
 |_=>none
noncomputable def O.celE:O→Option (Option V)
 |.cel v=>some v
 |_=>none
noncomputable def O.insE:O→Option (Nat×Nat)
 |.ins c d=>some (c,d)
 |_=>none
noncomputable def O.lstE:O→Option (List V)
 |.lst xs=>some xs
 |_=>none
noncomputable def O.lsE:O→Option (List V)
 |.lst xs=>some xs
 |.dls ds=>some (ds.map .dat)
 |_=>none
noncomputable def O.dlE:O→Option (List D)
 |.dls ds=>some ds
 |_=>none
noncomputable def O.tupE:O→Option (List V)
 |.tup xs=>some xs
 |_=>none
theorem mG {hp:List O}{l:Nat}{es:List (Nm×V)}(e:hp[l]?.bind O.frE=some es):Lv hp l (.fr es):=(aJ e).elim fun o q=>⟨q.1.trans (by cases o <;>first|exact congrArg (fun z=>some (O.fr z)) (Option.some.inj q.2)|exact nomatch q.2),rfl⟩
theorem gH {hp:List O}{l:Nat}{es:List (Nm×V)}(e:hp[l]?.bind O.nsE=some es):Lv hp l (.ns es):=(aJ e).elim fun o q=>⟨q.1.trans (by cases o <;>first|exact congrArg (fun z=>some (O.ns z)) (Option.some.inj q.2)|exact nomatch q.2),rfl⟩
theorem Av {hp:List O}{l:Nat}{v:Option V}(e:hp[l]?.bind O.celE=some v):Lv hp l (.cel v):=(aJ e).elim fun o q=>⟨q.1.trans (by cases o <;>first|exact congrArg (fun z=>some (O.cel z)) (Option.some.inj q.2)|exact nomatch q.2),rfl⟩
theorem Ka {hp:List O}{l:Nat}{z:Nat×Nat}(e:hp[l]?.bind O.insE=some z):Lv hp l (.ins z.1 z.2):=(aJ e).elim fun o q=>⟨q.1.trans (by cases o <;>first|exact congrArg (fun z:Nat×Nat=>some (O.ins z.1 z.2)) (Option.some.inj q.2)|exact nomatch q.2),rfl⟩
theorem c8 {hp:List O}{l:Nat}{xs:List V}(e:hp[l]?.bind O.lstE=some xs):Lv hp l (.lst xs):=(aJ e).elim fun o q=>⟨q.1.trans (by cases o <;>first|exact congrArg (fun z=>some (O.lst z)) (Option.some.inj q.2)|exact nomatch q.2),rfl⟩
theorem mH {hp:List O}{l:Nat}{xs:List D}(e:hp[l]?.bind O.dlE=some xs):Lv hp l (.dls xs):=(aJ e).elim fun o q=>⟨q.1.trans (by cases o <;>first|exact congrArg (fun z=>some (O.dls z)) (Option.some.inj q.2)|exact nomatch q.2),rfl⟩
theorem Kb {hp:List O}{l:Nat}{xs:List V}(e:hp[l]?.bind O.tupE=some xs):Lv hp l (.tup xs):=(aJ e).elim fun o q=>⟨q.1.trans (by cases o <;>first|exact congrArg (fun z=>some (O.tup z)) (Option.some.inj q.2)|exact nomatch q.2),rfl⟩
structure Rs (β:Type) (T:β→List O→Prop) where
 v:β
 hp:List O
 g:Bool
 ok:g=true→T v hp
noncomputable def tk {α β:Type}(x:Option α)(f:∀ a,x=some a→Option β):Option β:=match x,f with
 |some a,f=>f a rfl
 |none,_=>none
noncomputable def w6 {α β:Type}(x:Option α)(f:∀ a,x=some a→β)(n:x=none→β):β:=match x,f,n with
 |some a,f,_=>f a rfl
 |none,_,n=>n rfl
noncomputable abbrev p7:RT Unit Unit:=fun _ _ _=>True
noncomputable abbrev Aw:RT Bool Bool:=fun _ b a=>a=b
noncomputable abbrev Cx.VT (c:Cx):RT V Value:=VR c.P
noncomputable def Ax (c:Cx)(n:Nat)(hp:List O){α β:Type}(f:Value→Sem α)(RR:RT β α)(a:V)(b:β)(hp':List O):Prop:=∀ A W s u,At c n A W hp s→VR c.P W a u→c.wp A (f u) (Post c RR W hp s b hp') s
noncomputable def cG (c:Cx)(n:Nat)(hp:List O){α β:Type}(f:Value→Value→Sem α)(RR:RT β α)(a a':V)(b:β)(hp':List O):Prop:=
 ∀ A W s u u',At c n A W hp s→VR c.P W a u→VR c.P W a' u'→c.wp A (f u u') (Post c RR W hp s b hp') s
noncomputable def WD (c:Cx)(n:Nat)(hp:List O){α β:Type}(f:List Value→Sem α)(RR:RT β α)(as:List V)(b:β)(hp':List O):Prop:=∀ A W s us,At c n A W hp s→VRs c.P W as us→c.wp A (f us) (Post c RR W hp s b hp') s
noncomputable def zQ (F:Fx)(x:Nm)(hp:List O):Option V:=(hp[F.fr]?.bind O.frE).bind fun es=>lk es x
noncomputable def eH (F:Fx)(x:Nm)(v:V)(hp:List O):Option (List O):=(hp[F.fr]?.bind O.frE).map fun es=>hp.set F.fr (.fr (pt es x v))
noncomputable def Fq (F:Fx)(x:Nm)(hp:List O):Option V:=(lk F.cs x).bind fun l=>(hp[l]?.bind O.celE).bind id
noncomputable def Ft (F:Fx)(x:Nm)(v:V)(hp:List O):Option (List O):=(lk F.cs x).bind fun l=>(hp[l]?.bind O.celE).map fun _=>hp.set l (.cel (some v))
noncomputable def Fu (G:Gam)(x:Nm):Option V:=match lk G.glob x with
 |some v=>some v
 |none=>lk G.blts x
theorem lE (c:Value)(d:Option Addr)(sl:Array (Option Value))(name:Str)(hsh:Int)(key v:Value)(es:List DictEntry)(n:Nat):
  Obj.putName name hsh key v ⟨c,d,.dict es.toArray n,sl⟩=⟨c,d,.dict (putL name hsh key v es).toArray (putN name es n),sl⟩:=by
 rw[Obj.putName_eq]
 unfold Obj.putNameByArray putN
 have h1:=putL_find name hsh key v es
 have h2:=any_of_findIdx name es
 simp only[List.findIdx?_toArray]
 cases h:List.findIdx? (fun x=>x.key.isStr name) es with
 |none=>rw[h]at h1 h2;rw[← h2,← h1];simp
 |some i=>rw[h]at h1 h2;rw[← h2,← h1];simp
section
variable {c:Cx}{n:Nat}{A:Around}{W:Wd}{hp:List O}{s:Shared}{sc:aG}{F:Fx}{env:Env}{x:Nm}{v:V}{u:Value}
theorem ER.noref {es:List (Nm×V)}{en:List DictEntry}(h:ER c.P W es en):en.any (·.refKey)=false:=List.any_eq_false.mpr fun e m=>(by rcases h.keys e m with⟨_,_,q⟩;exact by unfold DictEntry.refKey;rw[q];exact Bool.false_ne_true)
theorem ER.ns {es:List (Nm×V)}{en:List DictEntry}(h:ER c.P W es en){H:Heap}{a:Addr}{cl:Value}{d:Option Addr}{k:Nat}{sl:Array (Option Value)}(g:H.get? a=some ⟨cl,d,.dict en.toArray k,sl⟩):H.Ns a fun y=>nsFind en.toArray y:=⟨_,en.toArray,k,g,rfl,h.skeys,fun _=>rfl⟩
theorem p8 {l:Nat}{o o':O}{B:Around}{es:List (Nm×V)}{cl:Value}{d:Option Addr}{en:List DictEntry}{k:Nat}{sl:Array (Option Value)}(z:At c n A W hp s)(lv:Lv hp l o)(g:s.heap.get? (W.ρ l)=some ⟨cl,d,.dict en.toArray k,sl⟩)(hE:ER c.P W es en)(hv:VR c.P W v u)
  (ho:∀ en' k',ER c.P W (pt es x v) en'→OR c.P W o' ⟨cl,d,.dict en'.toArray k',sl⟩):c.wp B (nsSet (W.ρ l) (st x) u) (Post c p7 W hp s () (hp.set l o')) s:=by
 refine wpAny_bind (wpAny_bind (wpAny_askSetting (wpAny_pure (wpAny_bind (wpAny_mkText (wpAny_bind (wpAny_loadPart g ?_)))))))
 dsimp only
 have hc:aRefKeyMayBeTheName (st x) en.toArray=false:=by rw[aRefKeyMayBeTheName_at,show en.toArray.any (·.refKey)=false from List.any_toArray.trans hE.noref,Bool.and_false]
 rw[hc]
 have q:=z.rel.update (l:=l) (o:=o) (o':=o') (f:=Obj.putName (st x) (PyData.keyHash c.w.params (st x)) (.str (st x) s.toks) u) lv g (by rw[lE];exact ho _ _ (hE.put hv)) fun q=>by rw[lE];exact q
 exact wpAny_updatePart g (.mk W q.1 (.of q.2) trivial)
theorem JW (z:AtF c sc n F hp A W s env)(hk:env.kindOf (st x)=some .local)(e:zQ F x hp=some v):c.wp A (loadName env (st x)) (Post c c.VT W hp s v hp) s:=
 (aJ e).elim fun es q=>(by rcases z.a.rel.fr (mG q.1)with⟨_,en,k,g,d⟩;exact(d.find q.2).elim fun u r=>wpAny_loadName_local z.f.kind hk (z.f.loc.symm▸d.ns g) ((mE _ _).trans r.1) (.here z.a r.2))
theorem Oi (z:AtF c sc n F hp A W s env)(hk:env.kindOf (st x)=some .cell∨(env.kindOf (st x)=some .free∧(st x==("__classdict__" :Str))=false))(e:Fq F x hp=some v):c.wp A (loadName env (st x)) (Post c c.VT W hp s v hp) s:=
 (aJ e).elim fun l q=>(aJ q.2).elim fun r y=>match r,y with
 |some _,y=>match z.a.rel.cel (Av y.1)with
  |.mk none _ d=>d.elim
  |.mk (some u) g d=>have h:=(z.f.cel x l q.1).2;have p:=Post.here z.a (Option.some.inj y.2▸d)
   hk.elim (fun hk=>wpAny_loadName_cell z.f.kind hk h ⟨_,g,rfl⟩ p) fun hk=>wpAny_loadName_free z.f.kind hk.1 h ⟨_,g,rfl⟩ p hk.2
theorem p9 {hp':List O}(z:AtF c sc n F hp A W s env)(hk:env.kindOf (st x)=some .local)(hv:VR c.P W v u)(e:eH F x v hp=some hp'):c.wp A (storeName env (st x) u) (Post c p7 W hp s () hp') s:=
 (aS e).elim fun es q=>have lv:=mG q.1;match z.a.rel.fr lv with
 |.mk cl en k g d=>by
  rw[storeName_local hk (by rw[z.f.kind];rfl),z.f.loc,← q.2]
  exact p8 z.a lv g d hv fun en' k' d'=>.mk cl en' k' d'
theorem Ay {hp':List O}(z:AtF c sc n F hp A W s env)(hk:env.kindOf (st x)=some .cell)(hv:VR c.P W v u)(e:Ft F x v hp=some hp'):c.wp A (storeName env (st x) u) (Post c p7 W hp s () hp') s:=
 (aJ e).elim fun l q=>(aS q.2).elim fun r y=>have lv:=Av y.1;match z.a.rel.cel lv with
 |.mk r g d=>by
  unfold storeName
  simp only[hk,z.f.kind]
  refine bK (wpAny_cellOf (z.f.cel x l q.1).2 ?_)
  unfold cellSet
  have t:=z.a.rel.update (o':=.cel (some v)) (f:=fun o=>{o with data:=.cell (some u)}) lv g (.mk (some u) hv)
  rw[← y.2]
  exact bK (wpAny_load g (wpAny_update g (.mk W t.1 (.of t.2) trivial)))
theorem Oj (z:AtF c sc n F hp A W s env)(hk:env.kindOf (st x)=some .globalImplicit)(e:Fu c.G x=some v):c.wp A (loadName env (st x)) (Post c c.VT W hp s v hp) s:=by
 have key:c.wp A (loadGlobal env (st x)) (Post c c.VT W hp s v hp) s:=match c.top.main with
  |.mk o es ep l d k q=>by
   have hN:s.heap.Ns env.globals fun y=>nsFind es y:=z.f.glob ▸ ⟨o,es,ep,z.a.In _ _ l,d,k,fun _=>rfl⟩
   unfold Fu at e
   cases hg:lk c.G.glob x with
   |some v'=>
    rw[hg]at e
    exact(q.1 x v' hg).elim fun u r=>loadGlobal_global hN r.1 (.here z.a (Option.some.inj e▸r.2.mono z.a.le0))
   |none=>
    rw[hg]at e
    exact match c.top.blt with
     |.mk o' es' ep' l' d' k' q'=>(q' x v e).elim fun u r=>loadGlobal_builtin hN (q.2 x v e) (z.f.blt ▸ ⟨o',es',ep',z.a.In _ _ l',d',k',fun _=>rfl⟩:s.heap.Ns env.builtins fun y=>nsFind es' y) r.1 (.here z.a (r.2.mono z.a.le0))
 have h:loadName env (st x)=loadGlobal env (st x):=by
  unfold loadName
  simp only[Env.blockKind,z.f.kind,hk,ScopeKind.isAnnotationScope,Bool.false_and,Bool.false_eq_true,if_false]
 rw[h];exact key
structure Ins where
 c:Nat
 d:Nat
 es:List (Nm×V)
noncomputable def rW (hp:List O)(l:Nat):Option Ins:=(hp[l]?.bind O.insE).bind fun p=>(hp[p.2]?.bind O.nsE).map fun es=>⟨p.1,p.2,es⟩
inductive InsAt (P:Params) (W:Wd) (h:Heap) (hp:List O) (l:Nat) (I:Ins):Prop
 |mk (en:List DictEntry) (k:Nat) (lv:Lv hp I.d (.ns I.es)) (nd:(I.es.map (·.1)).Nodup) (E:ER P W I.es en) (g:h.get? (W.ρ I.d)=some ⟨.type "dict",none,.dict en.toArray k,#[]⟩)
  (a:PySem.W.InstAt h (W.ρ l) ⟨.ref I.c,some (W.ρ I.d),.plain,#[]⟩ I.c (some ⟨.type "dict",none,.dict en.toArray k,#[]⟩))
theorem iI {P:Params}{h:Heap}(R:Rel P W hp h){l:Nat}{I:Ins}(e:rW hp l=some I):InsAt P W h hp l I:=
 (aJ e).elim fun p q=>(aS q.2).elim fun es y=>have lv:=gH y.1;y.2▸match R.ins (Ka q.1),R.ns lv with
 |⟨g,_⟩,.mk en k g' d nd=>.mk en k lv nd d g' ⟨g,rfl,rfl,g'⟩
noncomputable def qB:List Cl→Nat→Option Cl
 | [],_=>none
 |c::r,a=>match Nat.beq c.adr a with
  |true=>some c
  |false=>qB r a
theorem Az:∀ {l:List Cl} {a:Nat} {cl:Cl},qB l a=some cl→cl∈l∧cl.adr=a
 |c::r,a,cl,e=>by
  unfold qB at e
  cases q:Nat.beq c.adr a with
  |true=>rw[q]at e;exact Option.some.inj e ▸ ⟨.head _,Nat.eq_of_beq_eq_true q⟩
  |false=>rw[q]at e;exact(Az (l:=r) e).imp (.tail _) id
noncomputable def V.plain:V→Bool
 |.blt _=>false
 |_=>true
theorem D.handed {P:Params}{fz:Addr→Option Obj}{d:D}{u:Value}(h:DR P fz d u):handedIn u=true:=by
 cases d with
 |non=>exact(h:_=_)▸rfl
 |boo _=>exact(h:_=_)▸rfl
 |_=>cases h;rfl
theorem V.plain_handed {P:Params}{v:V}{u:Value}(p:v.plain=true)(h:VR P W v u):handedIn u=true:=by
 cases v with
 |dat _=>exact D.handed h
 |ref _=>exact h.2▸rfl
 |top _=>exact(h:_=_)▸rfl
 |blt _=>cases p
 |typ _=>exact(h:_=_)▸rfl
 |_=>cases h;rfl
theorem ER.look {es:List (Nm×V)}{en:List DictEntry}(hE:ER c.P W es en)(cl:Value)(d:Option Addr)(k:Nat)(sl:Array (Option Value))(r:Option Value)(e:lC (st x) en=r):lookIn (st x) ⟨cl,d,.dict en.toArray k,sl⟩=some r:=by
 have q:=gE (st x) en
 unfold lookIn
 dsimp only
 cases y:en.find? (fun e=>e.key.isStr (st x))with
 |some e'=>rw[y]at q;exact congrArg some (q.trans e)
 |none=>
  rw[y]at q
  dsimp only
  rw[hE.noref]
  exact congrArg some (q.trans e)
noncomputable def Fv:List TI→Nat→Option TI
 | [],_=>none
 |t::r,a=>match Nat.beq t.adr a with
  |true=>some t
  |false=>Fv r a
theorem BA:∀ {l:List TI} {a:Nat} {t:TI},Fv l a=some t→t∈l∧t.adr=a
 |x::r,a,t,e=>by
  unfold Fv at e
  cases q:Nat.beq x.adr a with
  |true=>rw[q]at e;cases e;exact⟨.head _,Nat.eq_of_beq_eq_true q⟩
  |false=>rw[q]at e;exact(BA e).imp (.tail _) id
inductive TopAt (P:Params) (W:Wd) (h:Heap) (a:Nat) (t:TI):Prop
 |mk (en:List DictEntry) (k:Nat) (E:ER P W t.es en) (a:PySem.W.InstAt h a ⟨.ref t.c,some t.d,.plain,#[]⟩ t.c (some ⟨.type "dict",none,.dict en.toArray k,#[]⟩))
theorem uN {c:Cx}{n:Nat}{A:Around}{W:Wd}{hp:List O}{s:Shared}(z:At c n A W hp s){a:Nat}{t:TI}(e:Fv c.G.tops a=some t):TopAt c.P W s.heap a t:=
 have q:=BA e;(by rcases c.top.tops t q.1 with⟨en,k,E,g,x⟩;exact .mk en k (E.mono z.le0) ⟨z.In _ _ (q.2▸x),rfl,rfl,z.In _ _ g⟩)
theorem BB {c:Cx}{a:Nat}{cl:Cl}(e:qB c.G.cls a=some cl):ClOk c.P c.K a cl:=have q:=Az e;q.2▸c.top.cls cl q.1
section
variable {l:Nat}{I:Ins}{cl:Cl}{expr:Bool}(z:At c n A W hp s)(h:VR c.P W (.ref l) u)(e:rW hp l=some I)(e2:qB c.G.cls I.c=some cl)
include z h e e2
theorem Fw {y:V}(e3:lk I.es x=some y)(g:(bM x cl.fields&&y.plain)=true):c.wp A (getAttr u (st x) expr) (Post c c.VT W hp s y hp) s:=match iI z.rel e,BB e2,Bool.and_eq_true_iff.mp g with
 |.mk en k lv nd E gd a,C,⟨g1,g2⟩=>(E.find e3).elim fun w r=>by
  rw[show u=.ref (W.ρ l)from h.2]
  exact get_value z.In a (plainGet_of C.get).1 (findObj_own C.dict (C.fields x g1) rfl (E.look _ _ _ _ _ r.1)) (V.plain_handed g2 r.2) (.tok z r.2)
theorem Fy {f:Nat}(e3:lk I.es x=none)(e4:lk cl.meths x=some f):c.wp A (getAttr u (st x) expr) (Post c c.VT W hp s (.mth f l) hp) s:=match iI z.rel e,BB e2 with
 |.mk en k lv nd E gd a,C=>by
  rw[show u=.ref (W.ρ l)from h.2]
  have m:=C.meths x f e4
  have y:=z.rel.allocZ (ob:=methodObj (.ref f) (.ref (W.ρ l))) rfl
  exact get_bind z.In a (plainGet_of C.get).1 (findObj_fn C.dict m.find m.get m.takes m.copied (E.look _ _ _ _ _ (E.miss e3))) (plainGet_of C.get).2 (wpAny_call (fn_get (s:={s with toks:=s.toks+1}) z.In m.type (handed_on rfl (.mk _ y.1 (.of y.2) (.mk _ h.1 (if_pos rfl))))))
theorem Fz {y:V}(e3:lk I.es x=none)(e4:lk cl.consts x=some y):c.wp A (getAttr u (st x) expr) (Post c c.VT W hp s y hp) s:=match iI z.rel e,BB e2 with
 |.mk en k lv nd E gd a,C=>match C.consts x y e4 with
  |.mk w f1 f2 f3 f4 f5=>by
   rw[show u=.ref (W.ρ l)from h.2]
   exact get_value z.In a (plainGet_of C.get).1 (findObj_cls C.dict f1 f2 f3 f4 (E.look _ _ _ _ _ (E.miss e3))) f3 (.tok z (f5.mono z.le0))
theorem GA {v:V}{w:Value}(hv:VR c.P W v w)(g:(bM x cl.fields&&Nat.ble I.es.length 100)=true):c.wp A (setAttr u (st x) w) (Post c p7 W hp s () (hp.set I.d (.ns (pt I.es x v)))) s:=match iI z.rel e,BB e2,Bool.and_eq_true_iff.mp g with
 |.mk en k lv nd E gd a,C,⟨g1,g2⟩=>by
  rw[show u=.ref (W.ρ l)from h.2]
  obtain⟨cd,hcd,hd'⟩:=any_some C.dict
  refine set_plain z.In a C.set (osa_open (s:={s with toks:=s.toks+1}) (r:=none) z.In a C.over (by unfold takerIn;rw[C.fields x g1];rfl) fun b=>?_)
  refine wpAny_bind (wpAny_pure (wpAny_bind (wpAny_bind (wpAny_loadPart a.at_ (wpAny_bind ((looks_clsIn z.In hcd).at ?_))))))
  rw[hd']
  refine wpAny_pure (a:=some (W.ρ I.d)) (wpAny_bind (wpAny_pure (wpAny_bind ?_)))
  refine wpAny_mono (p8 (s:={s with toks:=s.toks+1}) (o':=.ns (pt I.es x v)) ⟨z.room,z.rel,z.kin,Nat.succ_pos _,z.fs⟩ lv gd E hv fun en' k' E'=>⟨gG x v nd,.mk en' k' E'⟩) (fun _ s' p=>?_) fun _ _ f=>f.elim
  match p with
  |.mk W' R' L' _=>
   have lv':Lv (hp.set I.d (.ns (pt I.es x v))) I.d (.ns (pt I.es x v)):=⟨List.getElem?_set_self lv.lt,rfl⟩
   match R'.ns lv' with
   |.mk en' k' g' E' _=>
    rw[L'.le.ρ _ (z.rel.lt lv)]at g'
    refine wpAny_bind (wpAny_lookBehind g' (pastItsLine_dict (by rw[List.size_toArray,R2.len E',sizeLine_eq];have:=uM x v I.es;have:=Nat.le_of_ble_eq_true g2;lia)) ?_)
    exact wpAny_pure (.mk W' R' ⟨L'.e,L'.g,L'.o⟩ trivial)
end
theorem GC {c:Cx}{n:Nat}{A:Around}{W:Wd}{hp:List O}{s:Shared}{u:Value}{x:Nm}{a:Nat}{t:TI}{cl:Cl}{expr:Bool}{y:V}(z:At c n A W hp s)(h:VR c.P W (.top a) u)(e:Fv c.G.tops a=some t)(e2:qB c.G.cls t.c=some cl)(e3:lk t.es x=some y)(g:(bM x cl.fields&&y.plain)=true):c.wp A (getAttr u (st x) expr) (Post c c.VT W hp s y hp) s:=match uN z e,BB e2,Bool.and_eq_true_iff.mp g with
 |.mk en k E a,C,⟨g1,g2⟩=>(E.find e3).elim fun w r=>by
  rw[show u=.ref _ from h]
  exact get_value z.In a (plainGet_of C.get).1 (findObj_own C.dict (C.fields x g1) rfl (E.look _ _ _ _ _ r.1)) (V.plain_handed g2 r.2) (.tok z r.2)
noncomputable def Ol (c:Cx)(n:Nat)(hp:List O):(v:V)→(x:Nm)→Option (Rs V fun y hp'=>∀ expr,Ax c n hp (fun u=>getAttr u (st x) expr) c.VT v y hp')
 |.ref l,x=>tk (rW hp l) fun I e=>tk (qB c.G.cls I.c) fun cl e2=>w6 (lk I.es x) (fun y e3=>some ⟨y,hp,bM x cl.fields&&y.plain,fun g _ _ _ _ _ z h=>Fw z h e e2 e3 g⟩)
   fun e3=>w6 (lk cl.meths x) (fun f e4=>some ⟨.mth f l,hp,true,fun _ _ _ _ _ _ z h=>Fy z h e e2 e3 e4⟩) fun _=>tk (lk cl.consts x) fun y e4=>some ⟨y,hp,true,fun _ _ _ _ _ _ z h=>Fz z h e e2 e3 e4⟩
 |.top a,x=>tk (Fv c.G.tops a) fun t e=>tk (qB c.G.cls t.c) fun cl e2=>tk (lk t.es x) fun y e3=>some ⟨y,hp,bM x cl.fields&&y.plain,fun g _ _ _ _ _ z h=>GC z h e e2 e3 g⟩
 |_,_=>none
noncomputable def Om (c:Cx)(n:Nat)(hp:List O):(v:V)→(x:Nm)→(y:V)→Option (Rs Unit fun _ hp'=>cG c n hp (fun u w=>setAttr u (st x) w) p7 v y () hp')
 |.ref l,x,y=>tk (rW hp l) fun I e=>tk (qB c.G.cls I.c) fun cl e2=>some ⟨(),hp.set I.d (.ns (pt I.es x y)),bM x cl.fields&&Nat.ble I.es.length 100,fun g _ _ _ _ _ z h hv=>GA z h e e2 hv g⟩
 |_,_,_=>none
end
end
section
noncomputable def mI:List Nm→List (Nm×Nat)→List O→List (Nm×Nat)×List O
 | [],cs,hp=>(cs,hp)
 |x::r,cs,hp=>mI r ((x,hp.length)::cs) (hp++[.cel none])
noncomputable def mJ:NameKind→Bool
 |.cell=>true
 |_=>false
theorem zR:∀ k:NameKind,(k==.cell)=mJ k:=by intro k;cases k <;>rfl
noncomputable def b8:aG→List Nm
 | []=>[]
 |p::r=>match mJ p.2 with
  |true=>p.1.cps.toList::b8 r
  |false=>b8 r
theorem aH (x:Str):st x.cps.toList=x:=congrArg Str.mk (Array.toArray_toList ..)
noncomputable def w7 (F:Fx):List Nm→List V→List O→Option (List O)
 |x::xs,v::vs,hp=>(match lk F.cs x with
  |some _=>Ft F x v hp
  |none=>eH F x v hp).bind fun hp1=>w7 F xs vs hp1
 | [],[],hp=>some hp
 |_,_,_=>none
theorem CelR.mono {W W':Wd}{cs:List (Nm×Nat)}{ca:List (Str×Addr)}(h:W.le W')(x:CelR W cs ca):CelR W' cs ca:=fun y l e=>have q:=x y l e;⟨Nat.lt_of_lt_of_le q.1 h.n,q.2.trans (congrArg some (h.ρ _ q.1).symm)⟩
theorem qC {α:Type}{y x:Nm}{a:α}{r:List (Nm×α)}{b:α}(e:lk ((y,a)::r) x=some b):(y=x∧a=b)∨(y≠x∧lk r x=some b):=by
 unfold lk at e
 cases q:nb y x with
 |true=>rw[q]at e;exact .inl ⟨bO q,Option.some.inj e⟩
 |false=>rw[q]at e;exact .inr ⟨oU q,e⟩
section
variable {c:Cx}{A:Around}{n:Nat}
theorem i0 (f:Str×NameKind→List (Str×Addr)→Sem (ForInStep (List (Str×Addr))))
  (hf:∀ name kind cells,f (name,kind) cells=if kind==.cell then(do let a ← alloc {cls:=.type "cell",data:=.cell none};pure (.yield ((name,a)::cells)))else pure (.yield cells)):
  ∀ (names:aG) (acc:List (Str×Addr)) (cs:List (Nm×Nat)) (hp:List O) (W:Wd) (s:Shared) {Q:List (Str×Addr)→Shared→Prop},Rel c.P W hp s.heap→CelR W cs acc→
   (∀ W' ca s',Rel c.P W' (mI (b8 names) cs hp).2 s'.heap→Lat W hp s W' (mI (b8 names) cs hp).2 s'→CelR W' (mI (b8 names) cs hp).1 ca→Q ca s')→c.wp A (forIn names acc f) Q s
 | [],acc,cs,hp,W,s,_,R,C,h=>by rw[List.forIn_nil];exact wpAny_pure (h W acc s R (.refl ..) C)
 |(name,kind)::r,acc,cs,hp,W,s,Q,R,C,h=>by
  rw[List.forIn_cons,hf,zR]
  cases hk:mJ kind with
  |true=>
   have e0:b8 ((name,kind)::r)=name.cps.toList::b8 r:=by
    show(match mJ kind with|true=>_|false=>_)=_
    rw[hk]
   rw[e0]at h
   have z:=R.alloc (o:=.cel none) (ob:=⟨.type "cell",none,.cell none,#[]⟩) (.mk none trivial)
   refine bK (bK (wpAny_alloc (wpAny_pure (i0 f hf r _ ((name.cps.toList,hp.length)::cs) (hp++[O.cel none]) _ {s with heap:=s.heap.push ⟨.type "cell",none,.cell none,#[]⟩} z.1 (fun x l e=>?_) fun W' ca s' R' L' C'=>h W' ca s' R' ((Lat.of (t:=s.toks) z.2).trans L') C'))))
   rcases qC e with⟨e1,e2⟩|⟨e1,e2⟩
   ·subst e2
    refine⟨R.len▸Nat.lt_succ_self _,?_⟩
    rw[R.push_at,← e1,aH,List.lookup_cons,beq_self_eq_true]
   ·have q:=C.mono (Wd.le_push W s.heap.objs.size) x l e2
    exact⟨q.1,by rw[List.lookup_cons,beq_eq_false_iff_ne.mpr fun e:st x=name=>e1 (by rw[← e];rfl)];exact q.2⟩
  |false=>
   have e0:b8 ((name,kind)::r)=b8 r:=by
    show(match mJ kind with|true=>_|false=>_)=_
    rw[hk]
   rw[e0]at h
   exact bK (wpAny_pure (i0 f hf r acc cs hp W s R C h))
noncomputable def w8 (F:Fx)(x:Nm):NameKind:=match lk F.cs x with
 |some _=>.cell
 |none=>.local
theorem qD {sc:aG}{F:Fx}{env:Env}(f:Str×Value→PUnit→Sem (ForInStep PUnit))(hf:∀ n v u,f (n,v) u=(do storeName env n v;pure (.yield ⟨⟩))){hp2:List O}{QQ:PUnit→Shared→Prop}:
  ∀ (ps:List Nm) (vs:List V) (vals:List Value) (hp:List O) (W:Wd) (s:Shared),AtF c sc n F hp A W s env→VRs c.P W vs vals→(∀ x∈ps,env.kindOf (st x)=some (w8 F x))→w7 F ps vs hp=some hp2→
   (∀ W' s',AtF c sc n F hp2 A W' s' env→Lat W hp s W' hp2 s'→QQ ⟨⟩ s')→c.wp A (forIn (mF ps vals) ⟨⟩ f) QQ s
 | [],[]=>fun _ hp W s z hv _ hb h=>by
  obtain rfl:_=[]:=hv
  show wpAny _ _ (forIn [] _ f) _ _ _
  rw[List.forIn_nil];exact wpAny_pure (h W s (Option.some.inj hb▸z) (Option.some.inj hb ▸ .refl ..))
 |x::ps,v::vs=>fun _ hp W s z hv hk hb h=>by
  obtain⟨u,r,rfl,hu,hr⟩:=Two.out hv
  show wpAny _ _ (forIn ((st x,u)::mF ps r) _ f) _ _ _
  rw[List.forIn_cons,hf]
  have hx:=hk x (.head _)
  obtain⟨hp1,e1,hb⟩:=aJ hb
  have step:c.wp A (storeName env (st x) u) (Post c p7 W hp s () hp1) s:=by
   unfold w8 at hx
   cases e:lk F.cs x with
   |some l=>rw[e]at e1 hx;exact Ay z hx hu e1
   |none=>rw[e]at e1 hx;exact p9 z hx hu e1
  exact bK (bK (go z.a step fun W' _ s' a L _=>wpAny_pure (qD f hf ps vs r hp1 W' s' (z.next L a) (R2.imp (fun _ _=>VR.mono L.le) hr) (fun y hy=>hk y (.tail _ hy)) hb fun W2 s2 z2 L2=>h W2 s2 z2 (L.trans L2))))
 | [],_::_=>fun _ _ _ _ _ _ _ hb=>nomatch hb
 |_::_,[]=>fun _ _ _ _ _ _ _ hb=>nomatch hb
structure Fn where
 params:List Nm
 dflt:List V
 cells:List Nm
 names:aG
 body:List Stmt
noncomputable def Fn.fill (F:Fn)(args:List V):List V:=args++F.dflt.drop (F.dflt.length - (F.params.length-args.length))
structure FnI (K:Frag) (fd:FuncData) (F:Fn):Prop where
 code:codeIn K fd.code fd.qualname=true
 body:fd.body=.stmts F.body
 clo:fd.closure=[]
 glob:fd.globals=mainGlobals
 blt:fd.builtins=builtinsNs
 co:fd.scope.isCoroutine=false
 gen:fd.scope.isGenerator=false
 kind:fd.scope.kind=.function
 names:fd.scope.names=F.names
 cells:b8 F.names=F.cells
 pars:fd.params.args.map (fun y=>y.arg.cps.toList)=F.params
 kinds:∀ x∈F.params,F.names.lookup (st x)=some (match bM x F.cells with|true=>.cell|false=>.local)
inductive FnD (P:Params) (K:Frag) (a:Addr) (F:Fn):Prop
 |mk (o:Obj) (fd:FuncData) (at_:K.lookup a=some o) (d:o.data=.func fd) (fn:fnIn K a=true) (i:FnI K fd F) (dv:List Value) (r:VRs P (W0 K) F.dflt dv)
  (bind:∀ (s:Shared) (vals:List Value),K.In s.heap→vals.length≤F.params.length→F.params.length≤vals.length+F.dflt.length→BindsTo s fd ⟨vals,[]⟩ (mF F.params (vals++dv.drop (F.dflt.length - (F.params.length-vals.length)))))
theorem w9 (x:Nm):∀ (cells:List Nm) (cs:List (Nm×Nat)) (hp:List O),(lk (mI cells cs hp).1 x).isSome=(bM x cells||(lk cs x).isSome)
 | [],_,_=>rfl
 |y::r,cs,hp=>(w9 x r _ _).trans (by
  show(bM x r||(match nb y x with|true=>some hp.length|false=>lk cs x).isSome)=((nb y x||bM x r)||_)
  cases nb y x with
  |true=>exact(Bool.or_true _).trans rfl
  |false=>rfl)
noncomputable def rX (F:Fn)(args:List V)(hp:List O):Option (Fx×List O):=
 let z:=mI F.cells [] (hp++[.fr []])
 (w7 ⟨hp.length,z.1,false⟩ F.params (F.fill args) z.2).map fun hp1=>(⟨hp.length,z.1,true⟩,hp1)
inductive Fl where|next|brk|cont|ret (v:V)
noncomputable def JX (P:Params)(W:Wd):Fl→Flow→Prop
 |.next,f=>f=.next
 |.brk,f=>f=.brk
 |.cont,f=>f=.cont
 |.ret v,f=>∃ u,f=.ret u∧VR P W v u
noncomputable abbrev Cx.FT (c:Cx):RT Fl Flow:=JX c.P
noncomputable def Kc:Fl→Option V
 |.next=>some (.dat .non)
 |.ret v=>some v
 |_=>none
noncomputable def WE (f:Flow):Value:=match f with
 |.ret v=>v
 |_=>.none
theorem GD {P:Params}{W:Wd}{fl:Fl}{v:V}{f:Flow}(e:Kc fl=some v)(x:JX P W fl f):VR P W v (WE f):=by
 cases fl with
 |next=>obtain rfl:f=_:=x;exact Option.some.inj e▸rfl
 |ret w=>obtain⟨u,rfl,r⟩:=x;exact Option.some.inj e▸r
 |_=>cases e
inductive RetOk (p:Value→Shared→Prop) (s:Shared):Result→Prop
 |mk (u:Value) (h:p u s):RetOk p s (.ok (.ret u))
inductive Aa (K:Frag) (f:Nat):List Value→Args→Prop
 |pos {vals:List Value}:Aa K f vals ⟨vals,[]⟩
 |kw {x:Nm} {ks:List Nm} {v:Value} {us:List Value} (h:KwOk K f x ks) (l:us.length=ks.length):Aa K f (v::us) ⟨[v],mF ks us⟩
structure CallOk (c:Cx) (n f:Nat) (args:List V) (hp:List O) (v:V) (hp':List O):Prop where
 fn:fnIn c.K f=true
 run:∀ A W s vals aa,Aa c.K f vals aa→At c n A W hp s→VRs c.P W args vals→codeAny c.M A (.call (.ref f) aa) (fun r s'=>RetOk (Post c c.VT W hp s v hp') s' r) s
theorem oV {a:Nat}{F:Fn}{args:List V}{hp hp1:List O}{X:Fx}{A:Around}{W:Wd}{s:Shared}{vals:List Value}{R:Result→Shared→Prop}(D:FnD c.P c.K a F)(h1:Nat.ble args.length F.params.length=true)(h2:Nat.ble F.params.length (args.length+F.dflt.length)=true)
  (en:rX F args hp=some (X,hp1))(z:At c (n+1) A W hp s)(hv:VRs c.P W args vals){aa:Args}(ha:Aa c.K a vals aa)
  (k:∀ W2 s2 env,AtF c F.names n X hp1 (A.deeper env) W2 s2 env→Lat W hp s W2 hp1 s2→wpAny c.M (A.deeper env) (execs F.body env) (fun f s'=>R (.ok (.ret (WE f))) s') (fun e s'=>wpAny c.M (A.deeper env) (leaving env e) (fun _ s''=>R (.error e) s'') (fun e' s''=>R (.error e') s'') s') s2):codeAny c.M A (.call (.ref a) aa) R s:=match D with
 |.mk o fd ao d fn I dv dr bind=>by
  have h1:=Nat.le_of_ble_eq_true h1
  have h2:=Nat.le_of_ble_eq_true h2
  rw[← R2.len hv]at h1 h2
  have KI:=z.In
  have bindA:BindsTo s fd aa (mF F.params (vals++dv.drop (F.dflt.length - (F.params.length-vals.length)))):=match ha with
   |.pos=>bind s vals KI h1 h2
   |.kw (.mk o' fd' at' d' p' bind') l=>by
    cases Option.some.inj (ao.symm.trans at')
    cases Data.func.inj (d.symm.trans d')
    have e:=I.pars.symm.trans p'
    rw[e,show dv.drop _=[]from List.drop_eq_nil_of_le (by rw[R2.len dr,List.length_cons,List.length_cons,l,Nat.sub_self];exact Nat.le_refl _),List.append_nil]
    exact bind' s _ _ KI l
  refine codeAny_call_function z.room.rl (KI _ _ ao) d I.co I.gen I.body (codeRec_of KI I.code) (wpAny_with_toks (Nat.le_refl s.toks) (bindA _ _ _ _ fun _=>?_))
  rw[I.clo,I.glob,I.blt]
  obtain⟨hp',e1,e2⟩:=aS en
  cases e2
  have hc:=I.cells
  rw[← I.names]at hc
  have hv2:VRs c.P W (F.fill args) (vals++dv.drop (F.dflt.length - (F.params.length-vals.length))):=by
   unfold Fn.fill;rw[← R2.len hv];exact R2.app hv (R2.imp (fun _ _=>VR.mono z.le0) (R2.drop _ dr))
  have kd:∀ x∈F.params,fd.scope.names.lookup (st x)=some (w8 ⟨hp.length,(mI F.cells [] (hp++[.fr []])).1,false⟩ x):=fun x m=>by
   rw[I.names,I.kinds x m]
   have q:=w9 x F.cells [] (hp++[.fr []])
   unfold w8
   cases y:lk (mI F.cells [] (hp++[.fr []])).1 x with
   |some l=>rw[y]at q;rw[show bM x F.cells=true from((Bool.or_false _).symm.trans q.symm)]
   |none=>rw[y]at q;rw[show bM x F.cells=false from((Bool.or_false _).symm.trans q.symm)]
  simp only[newFunctionEnv,Option.isSome_none,Bool.false_eq_true,if_false]
  have y:=z.rel.alloc (o:=.fr []) (ob:=⟨.type "frame",none,.dict #[],#[]⟩) (.mk "frame" [] 0 rfl)
  have L0:Lat W hp s _ _ {s with heap:=_}:=.of (t:=s.toks) y.2
  refine wpAny_mono (E:=no) (bK (wpAny_alloc (bK (wpAny_with_toks (n:=s.toks) (Nat.le_refl _) (wpAny_mono (E:=no) (i0 (c:=c) (A:=A.in1) _ (fun name kind cells=>rfl) fd.scope.names [] [] (hp++[.fr []]) _ {s with heap:=s.heap.push ⟨.type "frame",none,.dict #[],#[]⟩} y.1 (fun x l e=>nomatch e)
   fun W1 ca s1 R1 L1 C1 t1=>?_) (fun _ _ q=>q) fun _ _ f=>f.elim))))) (fun _ _ q=>q) fun _ _ f=>f.elim
  rw[hc]at R1 L1 C1
  have L2:=L0.trans L1
  have fr:FrR W1 ⟨hp.length,(mI F.cells [] (hp++[.fr []])).1,false⟩ {scope:=fd.scope,locals:=s.heap.objs.size,globals:=mainGlobals,cells:=ca,qual:=fd.qualname++Str.ofString ".<locals>.",func:=some a,code:=fd.code,frame:=some s.heap.objs.size,builtins:=builtinsNs}:=
   ⟨Nat.lt_of_lt_of_le (by rw[y.1.len,List.length_append];exact Nat.lt_succ_self _) L1.le.n,((L1.le.ρ _ (by rw[y.1.len,List.length_append];exact Nat.lt_succ_self _)).trans (z.rel.push_at _)).symm,C1,I.kind,rfl,rfl⟩
  have z1:AtF c fd.scope.names n ⟨hp.length,(mI F.cells [] (hp++[.fr []])).1,false⟩ (mI F.cells [] (hp++[.fr []])).2 A.in1 W1 s1 _:=⟨(z.next L2 R1 t1).to z.room.in1 (z.fs.ext L2.e).in1,fr,rfl,fun q=>Bool.noConfusion q⟩
  refine bK (qD (hp2:=hp1) _ (fun _ _ _=>rfl) F.params (F.fill args) _ _ W1 s1 z1 (R2.imp (fun _ _=>VR.mono L2.le) hv2) kd e1 fun W2 s2 z2 L3=>wpAny_pure ⟨z2.a.nolimit,?_⟩)
  exact codeAny_func (k W2 s2 _ ⟨z2.a.to z.room.deeper (.deeper (((FrAt.new I.kind rfl z.old).ext L1.e).ext L3.e) z2.a.fs.out1),⟨z2.f.lt,z2.f.loc,z2.f.cel,z2.f.kind,z2.f.glob,z2.f.blt⟩,I.names,fun _=>(by rcases z.fs with⟨l,e,_⟩;exact⟨l,congrArg (Option.map (_::·)) e⟩)⟩ (L2.trans L3))
theorem xA {a:Nat}{F:Fn}{args:List V}{hp hp1 hp2:List O}{X:Fx}{fl:Fl}{v:V}(D:FnD c.P c.K a F)(h1:Nat.ble args.length F.params.length=true)(h2:Nat.ble F.params.length (args.length+F.dflt.length)=true)
  (en:rX F args hp=some (X,hp1))(b:Run c F.names n X hp1 (execs F.body) c.FT fl hp2)(rv:Kc fl=some v):CallOk c (n+1) a args hp v hp2:=
 ⟨(by rcases D with⟨_,_,_,_,fn,_,_,_,_⟩;exact fn),fun A W s vals aa ha z hv=>oV D h1 h2 en z hv ha fun W2 s2 env z2 L=>wpAny_mono (b _ W2 s2 _ z2) (fun f s3 p=>(by rcases p with⟨W',r,l,x⟩;exact .mk _ (.mk W' r (L.trans l) (GD rv x)))) fun _ _ f=>f.elim⟩
noncomputable def BC:List Nat→V→List O→Option (V×List O)
 | [],v,hp=>some (v,hp)
 |l::ls,v,hp=>(p5 l hp).bind fun d=>BC ls (v.mp (sb l d) id) ((hp.set l .gone).map (O.mp (sb l d) id))
noncomputable def mK (k:Nat)(τ:List Nat)(v:V)(hp:List O):Option (V×List O):=match Fk (List.range k++τ)&&(v.cl (dT (List.range k++τ))&&e9 (List.range k++τ) hp)with
 |true=>some (v.ren (kr (List.range k++τ)),kept (List.range k++τ) hp)
 |false=>none
noncomputable def gJ (k:Nat)(fz τ:List Nat)(v:V)(hp:List O):Option (V×List O):=(BC fz v hp).bind fun p=>mK k τ p.1 p.2
noncomputable def WF (W:Wd)(hp:List O)(W':Wd)(hp':List O):Prop:=∀ a,¬ Live W hp a→W.fz a=none→¬ Live W' hp' a∧W'.fz a=none
inductive Vr (P:Params) (W0:Wd) (hp0:List O) (h0 h:Heap) (Wc:Wd) (hpc:List O) (v:V) (u:Value) (hp:List O):Prop
 |mk (W:Wd) (R:Rel P W hp h) (E:Ext W0 hp0 h0 W hp h) (x:VR P W v u) (C:WF Wc hpc W hp)
theorem rY {P:Params}{W0:Wd}{hp0:List O}{h0 h:Heap}{u:Value}{Wc:Wd}{hpc:List O}:∀ (fz:List Nat) {v:V} {hp:List O} {p:V×List O},BC fz v hp=some p→Vr P W0 hp0 h0 h Wc hpc v u hp→Vr P W0 hp0 h0 h Wc hpc p.1 u p.2
 | [],_,_,_,e,x=>Option.some.inj e▸x
 |_::ls,v,_,_,e,.mk W R E x C=>(aJ e).elim fun d q=>(by rcases Ar R q.1 with⟨W',R',E',m,C'⟩;exact rY ls q.2 (.mk W' R' (E.trans E') (VR.go m (V.cl_all v) x) fun a n z=>have y:=C a n z;C' a y.1 y.2))
set_option tactic.hygienic true in
theorem i5 {P:Params}{W0:Wd}{hp0:List O}{h0 h:Heap}{u:Value}{Wc:Wd}{hpc:List O}{fz τ:List Nat}{v:V}{hp:List O}{p:V×List O}(e:gJ W0.n fz τ v hp=some p)(x:Vr P W0 hp0 h0 h Wc hpc v u hp):Vr P W0 hp0 h0 h Wc hpc p.1 u p.2:=by
 obtain⟨q,e1,e2⟩:=aJ e
 unfold mK at e2
 split at e2
 ·rename_i g
  have g:=Bool.and_eq_true_iff.mp g
  have g2:=Bool.and_eq_true_iff.mp g.2
  exact Option.some.inj e2▸match rY fz e1 x with
   |.mk W R E x C=>.mk _ (R.keep g.1 g2.2) (E.keep R g2.2) (VR.go (mC P W _) g2.1 x) fun a n z=>have y:=C a n z;⟨fun l=>y.1 (From.live (g7 R g2.2) l),y.2⟩
 ·cases e2
theorem kJ {f:Nat}{args:List V}{hp hp2:List O}{v:V}{fz τ:List Nat}{p:V×List O}(h:CallOk c n f args hp v hp2)(e:gJ hp.length fz τ v hp2=some p):CallOk c n f args hp p.1 p.2:=
 ⟨h.fn,fun A W s vals aa ha z hv=>codeAny_mono (h.run A W s vals aa ha z hv) fun r s' q=>(by rcases q with⟨u,⟨W',R',L,x⟩⟩;exact(by rcases i5 (z.rel.len.symm▸e:gJ W.n fz τ v hp2=some p) (.mk W' R' L.e x fun _ n z=>⟨n,z⟩)with⟨W2,R2,E2,x2,_⟩;exact .mk u (.mk W2 R2 ⟨E2,L.g,L.o⟩ x2)))⟩
noncomputable def Kd (σ:List Nat)(args:List V)(hp:List O):Bool:=(Fk σ&&σ.all fun l=>Nat.blt l hp.length)&&(args.all (V.cl (dT σ))&&e9 σ hp)
theorem qE {m f:Nat}{args:List V}{hp hpS:List O}{v:V}{σ:List Nat}(g:Kd σ args hp=true)(l:Nat.ble m n=true)(h:CallOk c m f (args.map (V.ren (kr σ))) (kept σ hp) v hpS):CallOk c n f args hp (v.ren (rn σ hp.length)) (dU σ hp hpS):=
 have g:=Bool.and_eq_true_iff.mp g
 have g1:=Bool.and_eq_true_iff.mp g.1
 have g2:=Bool.and_eq_true_iff.mp g.2
 ⟨h.fn,fun A W s vals aa ha z hv=>codeAny_mono (h.run A (gB W σ) s vals aa ha ⟨z.room.less (Nat.le_of_ble_eq_true l),z.rel.keep g1.1 g2.2,z.kin,z.tk,z.fs⟩ (VRs.go (mC c.P W σ) g2.1 hv)) fun r s' q=>(by rcases q with⟨u,⟨WS,R',L,x⟩⟩;exact(by rcases Fm z.rel (fun l m=>Nat.le_of_ble_eq_true (List.all_eq_true.mp g1.2 l m)) g2.2 R' L.e with⟨W',R2,E2,m⟩;exact .mk u (.mk W' R2 ⟨E2,L.g,L.o⟩ (VR.go m (V.cl_all v) x))))⟩
end
end
section
open PySem.SeqAt
inductive Mb (p:Prop):Type where
 |ok (h:p)|no
namespace Mb
noncomputable def yes {p:Prop}:Mb p→Bool
 |.ok _=>true
 |.no=>false
theorem out {p:Prop}:∀ {x:Mb p},x.yes=true→p
 |.ok h,_=>h
noncomputable def gvn {p:Prop}(b:Bool)(f:b=true→Mb p):Mb p:=match b,f with
 |true,f=>f rfl
 |false,_=>.no
noncomputable def tkn {p q:Prop}(x:Mb q)(f:q→Mb p):Mb p:=match x with
 |.ok h=>f h
 |.no=>.no
end Mb
noncomputable def kC:Int→Int→Bool
 |.ofNat m,.ofNat n=>Nat.beq m n
 |.negSucc m,.negSucc n=>Nat.beq m n
 |_,_=>false
noncomputable def i6:Int→Int→Bool
 |.ofNat m,.ofNat n=>Nat.blt m n
 |.negSucc _,.ofNat _=>true
 |.negSucc m,.negSucc n=>Nat.blt n m
 |.ofNat _,.negSucc _=>false
theorem zS (m n:Nat):Nat.beq m n=decide (m=n):=(Bool.eq_iff_iff.mpr (by rw[decide_eq_true_eq];exact⟨Nat.eq_of_beq_eq_true,fun e=>e▸Nat.beq_refl m⟩))
theorem bE (a b:Int):(a==b)=kC a b:=by
 cases a <;>cases b
 ·exact(decide_eq_decide.mpr ⟨Int.ofNat.inj,congrArg _⟩).trans (zS _ _).symm
 ·exact decide_eq_false nofun
 ·exact decide_eq_false nofun
 ·exact(decide_eq_decide.mpr ⟨Int.negSucc.inj,congrArg _⟩).trans (zS _ _).symm
theorem Ke (m n:Nat):Nat.blt m n=decide (m<n):=(Bool.eq_iff_iff.mpr (by rw[decide_eq_true_eq];exact iff_of_eq Nat.ble_eq))
theorem cX (a b:Int):decide (a<b)=i6 a b:=by
 cases a with
 |ofNat m=>cases b with
  |ofNat n=>exact(decide_eq_decide.mpr Int.ofNat_lt).trans (Ke _ _).symm
  |negSucc n=>exact decide_eq_false (Int.not_lt.mpr (Int.le_of_lt (Int.lt_of_lt_of_le (Int.negSucc_lt_zero n) (Int.natCast_nonneg m))))
 |negSucc m=>cases b with
  |ofNat n=>exact decide_eq_true (Int.lt_of_lt_of_le (Int.negSucc_lt_zero m) (Int.natCast_nonneg n))
  |negSucc n=>exact(decide_eq_decide.mpr (by rw[Int.negSucc_eq,Int.negSucc_eq];lia)).trans (Ke _ _).symm
theorem BD (a b:Int):decide (a≤b)= !i6 b a:=by rw[← cX,← decide_not];exact decide_eq_decide.mpr Int.not_lt.symm
noncomputable abbrev lim:Nat:=1048576
noncomputable def c9:Int→Bool
 |.ofNat n=>Nat.ble n lim
 |.negSucc n=>Nat.ble n lim
theorem kK {k:Int}(h:c9 k=true): -(2 ^ 63)≤k∧k<2 ^ 63:=by
 cases k with
 |ofNat n=>have:=Nat.le_of_ble_eq_true h;exact⟨Int.le_trans (by decide) (Int.natCast_nonneg n),Int.lt_of_le_of_lt (Int.ofNat_le.mpr this) (by decide)⟩
 |negSucc n=>have:n≤1048576:=Nat.le_of_ble_eq_true h;rw[Int.negSucc_eq];lia
theorem bH {n:Nat}(h:Nat.ble n lim=true):n≤sizeLine:=Nat.le_trans (Nat.le_of_ble_eq_true h) (by decide)
theorem i8 {n:Nat}(h:Nat.ble n lim=true):(n:Int)<2 ^ 63:=Int.lt_of_le_of_lt (Int.ofNat_le.mpr (Nat.le_of_ble_eq_true h)) (by decide)
noncomputable def Al:Bool→Bool→Bool
 |true,b=>b
 |false,b=> !b
theorem mL:∀ a b:Bool,(a==b)=Al a b:=by decide
noncomputable def zT:D→D→Bool
 |.non,.non=>true
 |.boo a,.boo b=>Al a b
 |.int a,.int b=>kC a b
 |.str a,.str b=>nb a b
 |_,_=>false
theorem BE (x y:Nm):(st x==st y)=nb x y:=mD x y 0
theorem Kf {A:Around}{s:Shared}{u v:Value}{k k':Bool}(e:k=k')(a:EqAt A s u v k)(b:RcAt A s u v k):EqAt A s u v k'∧RcAt A s u v k':=e ▸ ⟨a,b⟩
structure SEq (P:Params) (a b:D):Prop where
 ok:∀ fz A s u v,DR P fz a u→DR P fz b v→EqAt A s u v (zT a b)∧RcAt A s u v (zT a b)
noncomputable def Kg (P:Params):(a b:D)→Mb (SEq P a b)
 |.non,.non=>.ok ⟨fun _ _ _ _ _ ha hb=>by rw[show _=Value.none from ha,show _=Value.none from hb];exact⟨.same _,.none_none⟩⟩
 |.non,.str _=>.ok ⟨fun _ _ _ u _ ha (.mk t)=>by rw[show u=Value.none from ha];exact⟨.none_str _ _,.none_str _ _⟩⟩
 |.str _,.non=>.ok ⟨fun _ _ _ _ v (.mk t) hb=>by rw[show v=Value.none from hb];exact⟨.str_none _ _,.str_none _ _⟩⟩
 |.boo a,.boo b=>.ok ⟨fun _ _ _ u v ha hb=>by rw[show u=Value.bool a from ha,show v=Value.bool b from hb];exact Kf (mL a b) (.bool_bool _ _) (.bool_bool _ _)⟩
 |.int a,.int b=>.ok ⟨fun _ _ _ _ _ (.mk _) (.mk _)=>Kf (bE a b) (.int_int _ _ _ _) (.int_int _ _ _ _)⟩
 |.str a,.str b=>.ok ⟨fun _ _ _ _ _ (.mk _) (.mk _)=>Kf (BE a b) (.str_str _ _ _ _) (.str_str _ _ _ _)⟩
 |_,_=>.no
noncomputable def DOk (P:Params)(n:Nat)(a b:D):Prop:=∀ fz A s u v,(∀ a o,fz a=some o→s.heap.get? a=some o)→DR P fz a u→DR P fz b v→A.units+n<cLine→EqAt A s u v true∧RcAt A s u v true
theorem R2.zip {α β γ δ:Type}{R:α→β→Prop}{S:α→γ→Prop}{T:β→δ→Prop}{E:γ→δ→Prop}(k:∀ x y u v,R x y→S x u→T y v→E u v):∀ {xs:List α} {ys:List β} {us:List γ} {vs:List δ},R2 R xs ys→R2 S xs us→R2 T ys vs→R2 E us vs
 | [],_,_,_=>fun h a b=>by obtain rfl:_=[]:=h;obtain rfl:_=[]:=a;exact b
 |_::_,_,_,_=>fun h a b=>by
  obtain⟨_,_,rfl,h,r⟩:=Two.out h
  obtain⟨_,_,rfl,a,q⟩:=Two.out a
  obtain⟨_,_,rfl,b,t⟩:=Two.out b
  exact .mk (k _ _ _ _ h a b) (R2.zip k r q t)
theorem R2.get {α β:Type}{R:α→β→Prop}:∀ {xs:List α} {ys:List β} {j:Nat} (h1:j<xs.length) (h2:j<ys.length),R2 R xs ys→R xs[j] ys[j]
 | [],_,_=>fun h1 _ _=>absurd h1 (Nat.not_lt_zero _)
 |_::_,_,j=>fun h1 h2 w=>by
  obtain⟨_,_,rfl,h,r⟩:=Two.out w
  cases j with
  |zero=>exact h
  |succ j=>exact R2.get (j:=j) (Nat.lt_of_succ_lt_succ h1) (Nat.lt_of_succ_lt_succ h2) r
theorem BF {A:Around}{s:Shared}{l l':Addr}(h:RcAt A s (.ref l) (.ref l') true):EqAt A s (.ref l) (.ref l') true∧RcAt A s (.ref l) (.ref l') true:=⟨by
 by_cases q:l=l'
 ·subst q;exact .same _
 ·exact .of_refs q h,h⟩
section
variable {P:Params}{n:Nat}{xs ys:List D}
theorem i9 {fz:Addr→Option Obj}{A:Around}{s:Shared}{vs vs':List Value}(h:R2 (DOk P n) xs ys)(hh:∀ a o,fz a=some o→s.heap.get? a=some o)(d:DRs P fz xs vs)(d':DRs P fz ys vs')(hu:A.units+(n+1)<cLine):
  vs'.length=vs.length∧∀ j (h1:j<vs.toArray.size) (h2:j<vs'.toArray.size),EqAt A.in1 s vs.toArray[j] vs'.toArray[j] true:=
 have z:R2 (fun u v=>EqAt A.in1 s u v true) vs vs':=R2.zip (fun _ _ _ _ q a b=>(q fz A.in1 s _ _ hh a b (by rw[Nat.add_comm n 1,← Nat.add_assoc]at hu;exact hu)).1) h (DRs.r2.mp d) (DRs.r2.mp d')
 ⟨R2.len z,fun _ h1 h2=>R2.get h1 h2 z⟩
theorem xB (n:Nat):(List.range n).all (fun _=>true)=true:=List.all_eq_true.mpr fun _ _=>rfl
theorem DOk.tup (h:R2 (DOk P n) xs ys):DOk P (n+1) (.tup xs) (.tup ys):=fun _ _ _ _ _ hh (.mk _ vs _ f d) (.mk _ vs' _ f' d') hu=>
 have z:=i9 h hh d d' hu
 BF (by
  have t:=RcAt.tuples (e:=fun _=>true) ⟨_,hh _ _ f,rfl,_,rfl⟩ ⟨_,hh _ _ f',rfl,_,rfl⟩ (Nat.lt_of_le_of_lt (Nat.le_add_right _ _) hu) z.2
  rw[xB,List.size_toArray,List.size_toArray,z.1,beq_self_eq_true]at t
  exact t)
theorem DOk.lst (h:R2 (DOk P n) xs ys):DOk P (n+1) (.lst xs) (.lst ys):=fun _ _ _ _ _ hh (.mk _ vs _ f d) (.mk _ vs' _ f' d') hu=>
 have z:=i9 h hh d d' hu
 BF (by
  have t:=RcAt.lists (e:=fun _=>true) ⟨_,hh _ _ f,rfl,_,rfl⟩ ⟨_,hh _ _ f',rfl,_,rfl⟩ (by rw[List.size_toArray,List.size_toArray,z.1]) (Nat.lt_of_le_of_lt (Nat.le_add_right _ _) hu) z.2
  rw[xB]at t
  exact t)
end
noncomputable def GE {R:D→D→Prop}(f:∀ a b,Mb (R a b)):(xs ys:List D)→Mb (R2 R xs ys)
 | [],[]=>.ok rfl
 |x::xs,y::ys=>(f x y).tkn fun h=>(GE f xs ys).tkn fun r=>.ok (.mk h r)
 |_,_=>.no
noncomputable def iJ (P:Params):(n:Nat)→(a b:D)→Mb (DOk P n a b)
 |n+1,.tup xs,.tup ys=>(GE (iJ P n) xs ys).tkn fun h=>.ok (DOk.tup h)
 |n+1,.lst xs,.lst ys=>(GE (iJ P n) xs ys).tkn fun h=>.ok (DOk.lst h)
 |_,a,b=>(Kg P a b).tkn fun h=>.gvn (zT a b) fun e=>.ok fun fz A s u v _ ha hb _=>e▸h.ok fz A s u v ha hb
noncomputable def rd:Value→D
 |.bool b=>.boo b
 |.int i _=>.int i
 |.str s _=>.str s.cps.toList
 |_=>.non
noncomputable def sA (x:D)(ds:List D):Bool:=ds.any fun d=>zT d x
noncomputable def Ty:D→Bool
 |.str _=>true
 |.int _=>true
 |.non=>true
 |_=>false
theorem Kh {P:Params}{fz:Addr→Option Obj}{d:D}{u:Value}(a:DR P fz d u)(sc:Ty d=true):rd u=d:=by
 cases d with
 |str _=>cases(a:IsS _ u);rfl
 |int _=>cases(a:IsI _ u);rfl
 |non=>exact(show u=.none from a)▸rfl
 |_=>cases sc
noncomputable abbrev GG (P:Params)(x:D)(ds:List D):Prop:=∀ fz A s us xv,DR P fz x xv→DRs P fz ds us→(∀ y∈us,EqAt A s y xv (zT (rd y) x))∧(us.any fun y=>zT (rd y) x)=sA x ds
theorem GH {P:Params}{x:D}:GG P x []:=fun _ _ _ us _ _ h=>by obtain rfl:us=[]:=h;exact⟨fun _ m=>absurd m List.not_mem_nil,rfl⟩
theorem mem_cons {P:Params}{x d:D}{ds:List D}(h:SEq P d x)(r:GG P x ds)(sc:Ty d=true):GG P x (d::ds):=fun fz A s _ xv hx w=>by
 obtain⟨u,_,rfl,a,q⟩:=Two.out w
 have e:=Kh a sc
 obtain⟨r1,r2⟩:=r fz A s _ xv hx q
 refine⟨fun y hy=>?_,?_⟩
 ·rcases List.mem_cons.mp hy with rfl|hy
  ·rw[e];exact(h.ok fz A s _ xv a hx).1
  ·exact r1 y hy
 ·rw[List.any_cons,e,r2];rfl
noncomputable def On (P:Params)(x:D)(ds:List D):Mb (GG P x ds):=
 List.rec (.ok GH) (fun d _ R=>(Kg P d x).tkn fun h=>R.tkn fun r=>.gvn (Ty d) fun sc=>.ok (mem_cons h r sc)) ds
noncomputable def uO:Nm→Nm→Bool
 | [],[]=>false
 | [],_::_=>true
 |_::_,[]=>false
 |a::x,b::y=>Nat.blt a b||(Nat.beq a b&&uO x y)
theorem qH:∀ x y:Nm,decide (x<y)=uO x y
 | [],[]=>rfl
 | [],_::_=>decide_eq_true List.Lex.nil
 |_::_,[]=>decide_eq_false nofun
 |a::x,b::y=>by
  show _=(Nat.blt a b||(Nat.beq a b&&uO x y))
  rw[← qH x y,Ke,zS,← Bool.decide_and,← Bool.decide_or]
  exact decide_eq_decide.mpr List.cons_lt_cons_iff
set_option genCtorIdx true in
inductive Cm where|eq|ne|lt|le|gt|ge|isn|isnotn|isin|notin
noncomputable def bR:Cm→CmpOp
 |.eq=>.Eq|.ne=>.NotEq|.lt=>.Lt|.le=>.LtE|.gt=>.Gt|.ge=>.GtE|.isn=>.Is|.isnotn=>.IsNot|.isin=>.In|.notin=>.NotIn
noncomputable abbrev jA:RT Bool Value:=fun _ b u=>u=.bool b
noncomputable def uP:D→Bool
 |.non=>true
 |_=>false
noncomputable def Ki:D→Bool
 |.non=>true
 |.boo _=>true
 |.int _=>true
 |.str _=>true
 |_=>false
theorem sB {P:Params}{fz:Addr→Option Obj}{d:D}{u:Value}(h:DR P fz d u)(g:Ki d=true):(u==.none)=uP d:=by
 cases d with
 |non=>rw[show u=.none from h];rfl
 |boo b=>rw[show u=.bool b from h];rfl
 |int i=>exact match u,(h:IsI i u)with|_,.mk _=>rfl
 |str x=>exact match u,(h:IsS x u)with|_,.mk _=>rfl
 |_=>cases g
section
variable {c:Cx}{n:Nat}{A:Around}{W:Wd}{hp:List O}{s:Shared}
theorem Room.eight (h:Room n A):A.units+8<cLine:=Nat.lt_of_le_of_lt (Nat.add_le_add_right (Nat.le_trans (Nat.le_add_right _ _) h.un) 8) (by decide)
theorem bo (z:At c n A W hp s)(b:Bool){k:Bool}(e:b=k):Post c jA W hp s k hp (.bool b) s:=.here z (congrArg Value.bool e)
theorem Kj (x y:Nm):(st x==st y)=nb x y:=mD x y 0
noncomputable def sC (c:Cx)(n:Nat)(hp:List O):(op:Cm)→(a b:V)→Option (Rs Bool fun k hp'=>cG c n hp (compareOp (bR op)) jA a b k hp')
 |.eq,.dat x,.dat y=>match Kg c.P x y with
  |.ok h=>some ⟨zT x y,hp,true,fun _ _ _ _ _ _ z hu hv=>(h.ok _ _ _ _ _ hu hv).2 _ _ _ _ (bo z _ rfl)⟩
  |.no=>some ⟨true,hp,(iJ c.P 8 x y).yes,fun g _ _ _ _ _ z hu hv=>(Mb.out g _ _ _ _ _ z.rel.fz hu hv z.room.eight).2 _ _ _ _ (bo z _ rfl)⟩
 |.ne,.dat (.int i),.dat (.int j)=>some ⟨!kC i j,hp,true,fun _ _ _ _ _ _ z (.mk _) (.mk _)=>RcNeAt.int_int _ _ _ _ _ _ _ _ (bo z _ (by rw[bE]))⟩
 |.lt,.dat (.int i),.dat (.int j)=>some ⟨i6 i j,hp,true,fun _ _ _ _ _ _ z (.mk _) (.mk _)=>PySem.P.lt_int (bo z _ (cX i j))⟩
 |.gt,.dat (.int i),.dat (.int j)=>some ⟨i6 j i,hp,true,fun _ _ _ _ _ _ z (.mk _) (.mk _)=>PySem.P.gt_int (bo z _ (cX j i))⟩
 |.le,.dat (.int i),.dat (.int j)=>some ⟨!i6 j i,hp,true,fun _ _ _ _ _ _ z (.mk _) (.mk _)=>PySem.P.le_int (bo z _ (BD i j))⟩
 |.ge,.dat (.int i),.dat (.int j)=>some ⟨!i6 i j,hp,true,fun _ _ _ _ _ _ z (.mk _) (.mk _)=>PySem.P.ge_int (bo z _ (BD j i))⟩
 |.le,.dat (.str x),.dat (.str y)=>some ⟨!uO y x,hp,true,fun _ _ _ _ _ _ z (.mk _) (.mk _)=>PySem.P.le_str (bo z _ (congrArg (!·) (qH y x)))⟩
 |.lt,.dat (.str x),.dat (.str y)=>some ⟨uO x y,hp,true,fun _ _ _ _ _ _ z (.mk _) (.mk _)=>PySem.P.lt_str (bo z _ (qH x y))⟩
 |.ne,.dat (.str x),.dat (.str y)=>some ⟨!nb x y,hp,true,fun _ _ _ _ _ _ z (.mk _) (.mk _)=>RcNeAt.str_str _ _ _ _ _ _ _ _ (bo z _ (congrArg (!·) (Kj x y)))⟩
 |.isn,.dat x,.dat .non=>some ⟨uP x,hp,Ki x,fun g _ _ _ _ v z hu hv=>(show v=.none from hv)▸is_none (bo z _ (sB hu g))⟩
 |.isnotn,.dat x,.dat .non=>some ⟨!uP x,hp,Ki x,fun g _ _ _ _ v z hu hv=>(show v=.none from hv)▸isNot_none (bo z _ (congrArg (!·) (sB hu g)))⟩
 |.isin,.dat x,.dat (.tup ds)=>some ⟨sA x ds,hp,(On c.P x ds).yes,fun g A _ s _ _ z hu (.mk _ vs _ f d)=>have m:=Mb.out g _ A.in1 s _ _ hu d;in_tupleAt (fun y=>zT (rd y) x) ⟨_,z.rel.fz _ _ f,rfl,_,rfl⟩ (fun y hy=>m.1 y (List.mem_toArray.mp hy)) (bo z _ (List.any_toArray.trans m.2))⟩
 |.isin,.dat (.str x),.dat (.str y)=>some ⟨Txt.contains (st y) (st x),hp,true,fun _ _ _ _ _ _ z (.mk _) (.mk _)=>SB.contains (bo z _ rfl)⟩
 |.notin,.dat (.str x),.dat (.str y)=>some ⟨!Txt.contains (st y) (st x),hp,true,fun _ _ _ _ _ _ z (.mk _) (.mk _)=>SB.notContains (bo z _ rfl)⟩
 |.notin,.dat x,.dat (.tup ds)=>some ⟨!sA x ds,hp,(On c.P x ds).yes,fun g A _ s _ _ z hu (.mk _ vs _ f d)=>have m:=Mb.out g _ A.in1 s _ _ hu d;notIn_tupleAt (fun y=>zT (rd y) x) ⟨_,z.rel.fz _ _ f,rfl,_,rfl⟩ (fun y hy=>m.1 y (List.mem_toArray.mp hy)) (bo z _ (congrArg (!·) (List.any_toArray.trans m.2)))⟩
 |_,_,_=>none
end
end
section
theorem Oo (x:Str)(v:Value):Value.isStrOf x v=v.isStr x:=by cases v <;>rfl
noncomputable abbrev SK (c:Cx):=PySem.strKind c.prog c.w
section
variable {c:Cx}{W:Wd}{h:Heap}{a:Addr}
theorem Ent.kn {x:Nm}{R:Value→Prop}{e:DictEntry}:Ent c.P x R e→Value.isStrOf (st x) e.key=true∧e.hash=hashStr c.w (st x)
 |.mk _ t h k _=>⟨by rw[k];exact beq_self_eq_true _,h⟩
theorem ER.kn:∀ {es:List (Nm×V)} {en:List DictEntry},ER c.P W es en→∀ e∈en,∃ k,Value.isStrOf k e.key=true∧e.hash=hashStr c.w k
 | [],_,h,_,m=>nomatch ((h:_=[])▸m)
 |_::_,_,.mk a r,e,m=>(List.mem_cons.mp m).elim (fun q=>⟨_,q▸a.kn⟩) fun q=>ER.kn r e q
theorem ER.keysOf {es:List (Nm×V)}{en:List DictEntry}(E:ER c.P W es en):PySem.KeysOf (SK c) en.toArray:=fun e m=>E.kn e (List.mem_toArray.mp m)
theorem BG {en:List DictEntry}{k:Nat}{es:List (Nm×V)}(E:ER c.P W es en)(g:h.get? a=some ⟨.type "dict",none,.dict en.toArray k,#[]⟩):h.MapOf (SK c) a fun k=>findBy Value.isStrOf en.toArray k:=⟨_,_,k,g,⟨rfl,rfl,rfl⟩,rfl,E.keysOf,fun _=>rfl⟩
theorem xC {en:List DictEntry}{x:Nm}{u:Value}(e:lC (st x) en=some u):findBy Value.isStrOf en.toArray (st x)=some u:=by
 unfold findBy
 rw[List.find?_toArray,funext fun e:DictEntry=>Oo (st x) e.key]
 exact(gE _ _).trans e
noncomputable abbrev KR (P:Params)(W:Wd)(p:Nm×V)(q:Str×Value):Prop:=q.1=st p.1∧VR P W p.2 q.2
theorem KR.keys:∀ {es:List (Nm×V)} {ks:List (Str×Value)},R2 (KR c.P W) es ks→ks.map (·.1)=(es.map (·.1)).map st
 | [],_,h=>by obtain rfl:_=[]:=h;rfl
 |_::_,_,.mk a r=>by rw[List.map_cons,List.map_cons,List.map_cons,a.1,KR.keys r]
theorem ER.rows:∀ {es:List (Nm×V)} {en:List DictEntry},ER c.P W es en→∃ ks,R2 (KR c.P W) es ks∧Pairs (SK c) en ks
 | [],_,h=>by obtain rfl:_=[]:=h;exact⟨[],rfl,.nil⟩
 |(x,_)::_,_,.mk (a:=e) a r=>(ER.rows r).elim fun ks q=>⟨(st x,e.val)::ks,.mk ⟨rfl,a.val⟩ q.1,.cons a.kn.1 rfl q.2⟩
theorem xD:∀ {es:List (Nm×V)} {en:List DictEntry} {ks:List (Str×Value)},R2 (KR c.P W) es ks→Pairs (SK c) en ks→(∀ e∈en,∃ k,Value.isStrOf k e.key=true∧e.hash=hashStr c.w k)→ER c.P W es en
 | [],_,_,h,p,_=>by obtain rfl:_=[]:=h;cases p;rfl
 |(x,_)::_,_,_,.mk a r,p,hk=>by
  cases p with
  | @cons e _ en _ k1 k2 k3=>
   obtain⟨k,q⟩:=hk e (.head _)
   have k1:Value.isStrOf (st x) e.key=true:=a.1▸k1
   exact .mk ((Value.isStrOf_shape k1).elim fun t ht=>.mk e t (Value.isStrOf_inj _ _ _ k1 q.1▸q.2) ht (k2▸a.2)) (xD r k3 fun e' m=>hk e' (.tail _ m))
theorem zU {ks:List (Str×Value)}{k:Str}{u:Value}(h:k ∉ ks.map (·.1)):ks.map (fun kv=>if kv.1=k then(kv.1,u)else kv)=ks:=by
 conv=>rhs;rw[← List.map_id ks]
 exact List.map_congr_left fun kv m=>if_neg fun e:kv.1=k=>h (e▸List.mem_map_of_mem m)
theorem g8 {x:Nm}{v:V}{u:Value}(hv:VR c.P W v u):∀ {es:List (Nm×V)} {ks:List (Str×Value)},R2 (KR c.P W) es ks→(es.map (·.1)).Nodup→R2 (KR c.P W) (pt es x v) (PySem.stored ks (st x) u)
 | [],_=>fun h _=>by obtain rfl:_=[]:=h;exact .mk ⟨rfl,hv⟩ rfl
 |(y,d)::es,_=>fun w nd=>by
  obtain⟨⟨k,z⟩,ks,rfl,h1,r⟩:=Two.out w
  have nd:=List.nodup_cons.mp nd
  obtain⟨e,h1⟩:=h1
  have e:k=st y:=e
  subst e
  unfold pt
  dsimp only
  cases q:nb y x with
  |true=>
   obtain rfl:=bO q
   have m:st y ∉ ks.map (·.1):=by rw[KR.keys r];exact fun m=>nd.1 ((List.mem_map.mp m).elim fun y' w=>mB w.2▸w.1)
   have e1:PySem.stored ((st y,z)::ks) (st y) u=(st y,u)::ks:=by
    unfold PySem.stored
    rw[List.any_cons,decide_eq_true rfl,Bool.true_or,if_pos rfl,List.map_cons,if_pos rfl,zU m]
   rw[e1];exact .mk ⟨rfl,hv⟩ r
  |false=>
   have ne:¬ st y=st x:=fun e=>oU q (mB e)
   have e1:PySem.stored ((st y,z)::ks) (st x) u=(st y,z)::PySem.stored ks (st x) u:=by
    unfold PySem.stored
    rw[List.any_cons,decide_eq_false ne,Bool.false_or,List.map_cons,if_neg ne]
    cases ks.any fun kv=>decide (kv.1=st x)<;>rfl
   rw[e1];exact .mk ⟨rfl,h1⟩ (g8 hv r nd.2)
theorem kL {es:List (Nm×V)}{ks:List (Str×Value)}(d:h.DictOf (SK c) a ks)(k:R2 (KR c.P W) es ks)(nd:(es.map (·.1)).Nodup):Got h a (OR c.P W (.ns es)):=by
  obtain⟨⟨_,_,_,_⟩,en,n,h1,⟨h2,h3,h4⟩,h5,h6,h7,_⟩:=d
  cases h2;cases h3;cases h4;cases h5
  exact .mk _ h1 ⟨nd,.mk en.toList n (xD k h7 fun e m=>h6 e (Array.mem_toList_iff.mp m))⟩
theorem gK:∀ {l:List Nm},l.Nodup→(l.map st).Nodup
 | [],_=>List.nodup_nil
 |_::_,h=>have h:=List.nodup_cons.mp h;List.nodup_cons.mpr ⟨fun m=>(List.mem_map.mp m).elim fun _ w=>h.1 (mB w.2▸w.1),gK h.2⟩
end
inductive LAt (P:Params) (W:Wd) (h:Heap) (cl:String) (xs:List V):Value→Prop
 |mk (a:Addr) (us:List Value) (n:Nat) (I:h.get? a=some ⟨.type cl,none,.seq us.toArray n,#[]⟩) (d:VRs P W xs us):LAt P W h cl xs (.ref a)
noncomputable def items (v:V)(hp:List O):Option (List V):=match v with
 |.dat (.lst ds)=>some (ds.map .dat)
 |.ref l=>hp[l]?.bind O.lsE
 |_=>none
noncomputable def dN (v:V)(hp:List O):Option (List V):=match v with
 |.dat (.tup ds)=>some (ds.map .dat)
 |.ref l=>hp[l]?.bind O.tupE
 |_=>none
section
variable {P:Params}{W:Wd}{hp:List O}{h:Heap}{u:Value}{xs:List V}{l:Nat}
theorem DRs.vrs {ds:List D}{us:List Value}(d:DRs P W.fz ds us):VRs P W (ds.map .dat) us:=R2.map (DRs.r2.mp d)
theorem DRe.er:∀ {es:List (Nm×D)} {en:List DictEntry},DRe P W.fz es en→ER P W (es.map fun p=>(p.1,.dat p.2)) en
 | [],_,h=>h
 |_::_,_,.mk a r=>.mk a (DRe.er r)
theorem xE (R:Rel P W hp h)(hv:VR P W (.ref l) u)(e:hp[l]?.bind O.lsE=some xs):LAt P W h "list" xs u:=(aJ e).elim fun o q=>by
 cases o with
 |lst ys=>exact match R.lst ⟨q.1,rfl⟩with|.mk us n g d=>(show u=.ref (W.ρ l)from hv.2) ▸ .mk _ us n g (Option.some.inj q.2▸d)
 |dls ds=>exact match R.dls ⟨q.1,rfl⟩with|.mk us n g d=>(show u=.ref (W.ρ l)from hv.2) ▸ .mk _ us n g (Option.some.inj q.2▸DRs.vrs d)
 |_=>exact nomatch q.2
theorem GJ (R:Rel P W hp h)(hv:VR P W (.ref l) u)(e:hp[l]?.bind O.tupE=some xs):LAt P W h "tuple" xs u:=(by rcases R.tup (Kb e)with⟨us,n,g,d⟩;exact(show u=.ref (W.ρ l)from hv.2) ▸ .mk _ us n g d)
theorem aT {v:V}(R:Rel P W hp h)(hv:VR P W v u)(e:items v hp=some xs):LAt P W h "list" xs u:=by
 cases v with
 |dat d=>cases d with
  |lst ds=>exact match u,(hv:IsSeq W.fz "list" (DRs P W.fz ds) u)with|_,.mk a vs n f d=>Option.some.inj e ▸ .mk a vs n (R.fz _ _ f) d.vrs
  |_=>cases e
 |ref l=>exact xE R hv e
 |_=>cases e
theorem dO {v:V}(R:Rel P W hp h)(hv:VR P W v u)(e:dN v hp=some xs):LAt P W h "tuple" xs u:=by
 cases v with
 |dat d=>cases d with
  |tup ds=>exact match u,(hv:IsSeq W.fz "tuple" (DRs P W.fz ds) u)with|_,.mk a vs n f d=>Option.some.inj e ▸ .mk a vs n (R.fz _ _ f) d.vrs
  |_=>cases e
 |ref l=>exact GJ R hv e
 |_=>cases e
end
noncomputable def rU {α:Type}:List α→Bool
 | []=>false
 |_::_=>true
theorem uQ:typeLookup (.type "method") "__bool__" =pure none:=by rw[typeLookup_type,builtinLookup_eq_fast];kernel_rfl
theorem zV:typeLookup (.type "method") "__len__" =pure none:=by rw[typeLookup_type,builtinLookup_eq_fast];kernel_rfl
section
variable {c:Cx}{n:Nat}{A:Around}{W:Wd}{hp:List O}{s:Shared}
theorem d8 {i:Int}{t k:Nat}(z:At c n A W hp s):Post c c.VT W hp s (.dat (.int i)) hp (.int i t) {s with toks:=k}:=.tok z (.mk t)
theorem jB {x:Nm}{t k:Nat}(z:At c n A W hp s):Post c c.VT W hp s (.dat (.str x)) hp (.str (st x) t) {s with toks:=k}:=.tok z (.mk t)
theorem Kk {x:Str}{t k:Nat}(z:At c n A W hp s):Post c c.VT W hp s (.dat (.str x.cps.toList)) hp (.str x t) {s with toks:=k}:=aH x▸jB z
theorem GK {xs:List V}{us:List Value}(d:VRs c.P W xs us):(!us.toArray.isEmpty)=rU xs:=by
 cases xs with
 |nil=>obtain rfl:us=[]:=d;rfl
 |cons=>cases us with
  |nil=>exact nomatch R2.len d
  |cons=>rfl
noncomputable def Tz (v:V)(hp:List O):Option (Rs Bool fun k hp'=>Ax c n hp truthy Aw v k hp'):=tk (items v hp) fun xs e=>some ⟨rU xs,hp,Nat.ble xs.length lim,fun g _ _ _ u z h=>match u,aT z.rel h e with
 |_,.mk a us k I d=>wpAny_truthy_list ⟨_,I,rfl,k,rfl⟩ (by rw[List.size_toArray,R2.len d];exact i8 g) (.tok z (GK d))⟩
noncomputable def Kl (c:Cx)(n:Nat)(hp:List O):(v:V)→Option (Rs Bool fun k hp'=>Ax c n hp truthy Aw v k hp')
 |.dat .non=>some ⟨false,hp,true,fun _ _ _ _ u z h=>(show u=.none from h)▸wpAny_pure (.here z rfl)⟩
 |.dat (.boo b)=>some ⟨b,hp,true,fun _ _ _ _ u z h=>(show u=.bool b from h)▸wpAny_pure (.here z rfl)⟩
 |.dat (.int i)=>some ⟨!kC i 0,hp,true,fun _ _ _ _ _ z (.mk _)=>PySem.P.truthy_int (.here z (congrArg (!·) (bE i 0)))⟩
 |.dat (.str x)=>some ⟨rU x,hp,Nat.ble x.length lim,fun g _ _ _ _ z (.mk _)=>PySem.P.truthy_str (Int.not_le.mpr (i8 g)) (.tok z (by cases x <;>rfl))⟩
 |.mth f l=>some ⟨true,hp,true,fun _ _ _ _ _ z (.mk a _ f)=>by
   have hT:_:=z.rel.fz _ _ f
   unfold truthy
   exact bK (wpAny_callSpecial?_none (name:=Str.ofString "__bool__") (T:="method") ⟨_,hT,rfl⟩ uQ (bK (wpAny_specialOf (name:=Str.ofString "__len__") (T:="method") ⟨_,hT,rfl⟩ zV (wpAny_pure (.here z rfl)))))⟩
 |v=>Tz v hp
end
end
section
theorem kM (x:Nm):(st x).length=x.length:=rfl
theorem oX (x y:Nm):st x++st y=st (x++y):=congrArg Str.mk (List.append_toArray x y)
noncomputable def oA:Int→Nat→Option Nat
 |.ofNat m,n=>match Nat.blt m n with
  |true=>some m
  |false=>none
 |.negSucc m,n=>match Nat.ble (m+1) n with
  |true=>some (n - (m+1))
  |false=>none
noncomputable def uR {α:Type}(xs:List α)(k:Int):Option α:=(oA k xs.length).bind fun j=>xs[j]?
theorem kN {k:Int}{n j:Nat}(e:oA k n=some j):seqIndex? k n=some j∧((0≤k∧k.toNat=j)∨(k<0∧ -(n:Int)≤k∧(k+n).toNat=j))∧j<n:=by
 unfold seqIndex?
 cases k with
 |ofNat m=>
  have e:(match Nat.blt m n with|true=>some m|false=>none)=some j:=e
  cases h:Nat.blt m n with
  |false=>rw[h]at e;cases e
  |true=>
   rw[h]at e
   obtain rfl:=Option.some.inj e
   have h:m<n:=Nat.le_of_ble_eq_true h
   have p:¬ Int.ofNat m<0:=Int.not_lt.mpr (Int.natCast_nonneg m)
   exact⟨by rw[if_neg p];exact if_pos (Bool.and_eq_true_iff.mpr ⟨decide_eq_true (Int.natCast_nonneg m),decide_eq_true (Int.ofNat_lt.mpr h)⟩),.inl ⟨Int.natCast_nonneg m,rfl⟩,h⟩
 |negSucc m=>
  have e:(match Nat.ble (m+1) n with|true=>some (n - (m+1))|false=>none)=some j:=e
  cases h:Nat.ble (m+1) n with
  |false=>rw[h]at e;cases e
  |true=>
   rw[h]at e
   obtain rfl:=Option.some.inj e
   have h:=Nat.le_of_ble_eq_true h
   have p:Int.negSucc m+(n:Int)=((n - (m+1):Nat):Int):=by rw[Int.negSucc_eq];omega
   have lt:n - (m+1)<n:=Nat.sub_lt (Nat.lt_of_lt_of_le (Nat.succ_pos m) h) (Nat.succ_pos m)
   exact⟨by rw[if_pos (Int.negSucc_lt_zero m),p];exact if_pos (Bool.and_eq_true_iff.mpr ⟨decide_eq_true (Int.natCast_nonneg _),decide_eq_true (Int.ofNat_lt.mpr lt)⟩),.inr ⟨Int.negSucc_lt_zero m,by rw[Int.negSucc_eq];omega,congrArg Int.toNat p⟩,lt⟩
set_option genCtorIdx true in
inductive Op where|add|sub|mod|fdiv|mul|pow
noncomputable def fA:Op→Operator
 |.add=>.Add|.sub=>.Sub|.mod=>.Mod|.fdiv=>.FloorDiv|.mul=>.Mult|.pow=>.Pow
section
variable {c:Cx}{n:Nat}{A:Around}{W:Wd}{hp:List O}{s:Shared}{α β:Type}
theorem mM {xs:List V}{us:List Value}{t:Nat}(z:At c n A W hp s)(d:VRs c.P W xs us):Post c c.VT W hp s (.ref hp.length) (hp++[.lst xs]) (.ref s.heap.objs.size) {s with heap:=s.heap.push {cls:=.type "list",data:=.seq us.toArray},toks:=t}:=
 have y:=z.rel.alloc (o:=.lst xs) (.mk us 0 (VRs.mono (Wd.le_push W _) d))
 .mk _ y.1 (.of y.2) ⟨z.rel.len▸Nat.lt_succ_self _,congrArg Value.ref (z.rel.push_at _).symm⟩
theorem fH {l:Nat}{xs ys:List V}{us vs:List Value}{k t:Nat}{f:Array Value→Array Value}{RR:RT β α}{b:β}{r:α}(z:At c n A W hp s)(lv:Lv hp l (.lst xs))(g:s.heap.get? (W.ρ l)=some ⟨.type "list",none,.seq us.toArray k,#[]⟩)
  (d:VRs c.P W ys vs)(hf:f us.toArray=vs.toArray)(x:RR W b r):Post c RR W hp s b (hp.set l (.lst ys)) r {s with heap:=s.heap.update (W.ρ l) (Obj.mapSeq f),toks:=t}:=
 have y:=z.rel.update (l:=l) (o':=.lst ys) (f:=Obj.mapSeq f) lv g (by simp only[Obj.mapSeq,hf];exact .mk vs _ d)
 .mk W y.1 (.of y.2) x
theorem xF {x:Int}(g:c9 x=true):x.natAbs<2 ^ 64:=by
 have:=kK g
 omega
theorem oY {x y:Int}(g:(!i6 x y)=true):y≤x:=Int.not_lt.mp (of_decide_eq_false ((cX x y).trans ((Bool.not_eq_true' _).mp g)))
noncomputable def UA (c:Cx)(n:Nat)(hp:List O)(x y:Int):(op:Op)→Rs V fun v hp'=>cG c n hp (binaryOp (fA op)) c.VT (.dat (.int x)) (.dat (.int y)) v hp'
 |.add=>⟨.dat (.int (x+y)),hp,true,fun _ _ _ _ _ _ z (.mk _) (.mk _)=>PySem.P.add_int (d8 z)⟩
 |.sub=>⟨.dat (.int (x-y)),hp,true,fun _ _ _ _ _ _ z (.mk _) (.mk _)=>PySem.P.sub_int (d8 z)⟩
 |.mod=>⟨.dat (.int (Int.fmod x y)),hp,!kC y 0,fun g _ _ _ _ _ z (.mk _) (.mk _)=>mod_int (bne_iff_ne.mp ((congrArg (!·) (bE y 0)).trans g)) (d8 z)⟩
 |.mul=>⟨.dat (.int (x*y)),hp,c9 x,fun g _ _ _ _ _ z (.mk _) (.mk _)=>PySem.P.mul_int (d8 z) (.of_left (intBits_le (xF g)))⟩
 |.pow=>⟨.dat (.int (x ^ y.toNat)),hp,!i6 y 0&&(!i6 1000 y&&c9 x),fun g _ _ _ _ _ z (.mk _) (.mk _)=>have g:=Bool.and_eq_true_iff.mp g;have g2:=Bool.and_eq_true_iff.mp g.2;pow_int_small (oY g.1) (Int.le_trans (oY g2.1) (by decide)) (xF g2.2) (d8 z)⟩
 |.fdiv=>⟨.dat (.int (Int.fdiv x y)),hp,!kC y 0&& !Builtin.divisionGoesByPylong x y,fun g _ _ _ _ _ z (.mk _) (.mk _)=>have g:=Bool.and_eq_true_iff.mp g;floordiv_int (bne_iff_ne.mp ((congrArg (!·) (bE y 0)).trans g.1)) (d8 z) (.inl ((Bool.not_eq_true' _).mp g.2))⟩
noncomputable def UB (c:Cx)(n:Nat)(hp:List O)(a b:V):(op:Op)→Option (Rs V fun v hp'=>cG c n hp (binaryOp (fA op)) c.VT a b v hp')
 |.add=>tk (items a hp) fun xs e=>tk (items b hp) fun ys e'=>some ⟨.ref hp.length,hp++[.lst (xs++ys)],Nat.ble (xs.length+ys.length) lim,fun g _ _ _ u u' z h h'=>match u,u',aT z.rel h e,aT z.rel h' e' with
  |_,_,.mk a us k I d,.mk a' us' k' I' d'=>PySem.P.add_list I I' (by rw[List.append_toArray];exact mM z (R2.app d d')) (by rw[List.size_toArray,List.size_toArray,R2.len d,R2.len d'];exact bH g)⟩
 |_=>none
noncomputable def UC (c:Cx)(n:Nat)(hp:List O)(op:Op):(a b:V)→Option (Rs V fun v hp'=>cG c n hp (binaryOp (fA op)) c.VT a b v hp')
 |.dat (.int x),.dat (.int y)=>some (UA c n hp x y op)
 |.dat (.str x),.dat (.str y)=>match op with
  |.add=>some ⟨.dat (.str (x++y)),hp,Nat.ble (x.length+y.length) lim,fun g _ _ _ _ _ z (.mk _) (.mk _)=>SB.add (fun t' k=>oX x y▸jB z) (bH g)⟩
  |_=>none
 |a,b=>UB c n hp a b op
theorem uS {l b:Addr}{us vs:Array Value}{k m:Nat}{Q:Value→Shared→Prop}(hl:IsL s.heap l us k)(hb:IsL s.heap b vs m)(hz:us.size+vs.size≤sizeLine)
  (h:Q (.ref l) {s with heap:=s.heap.update l (Obj.mapSeq (· ++vs))}):c.wp A (inplaceOp .Add (.ref l) (.ref b)) Q s:=by
 have tl:s.TypeIs (.ref l) "list" :=⟨_,hl,rfl⟩
 have tb:s.TypeIs (.ref b) "list" :=⟨_,hb,rfl⟩
 have seq:isSeqSlot (some (.builtin "list.__iadd__"))=true:=by decide+kernel
 have fi:fillsInplaceSlot (.type "list") "add" (Operator.Add==.Add)=pure false:=by
  unfold fillsInplaceSlot
  show(typeLookup (.type "list") (dunderI "add") >>= fun fi=>pure (fi.isSome&& !isSeqSlot fi))=pure false
  rw[F.slot_list_iadd.lookup,pure_bind,seq];rfl
 unfold inplaceOp
 refine wpAny_holding (bK (wpAny_typeOf tl (bK (wpAny_of_eq fi ?_))))
 show wpAny _ A (if false=true then _ else _) Q no s
 rw[if_neg Bool.false_ne_true]
 refine bK (wpAny_binaryOp1_none (nm:="add") tl tb noFill_list_add ?_)
 refine bK (wpAny_of_eq (PySem.seqSlot_of F.slot_list_iadd.lookup seq) (bK (wpAny_rule ?_)))
 exact call_meets F.slot_list_iadd tl F.entry_list_iadd (F.args_list_iadd_2 _ _) (AutoSeq1.list___iadd___list_list_0 l us k b vs m (fun q=>Nat.not_lt.mpr hz (of_decide_eq_true (Bool.and_eq_true_iff.mp q).2)) (Nat.le_trans (Nat.le_add_right _ _) hz) (Nat.le_succ_of_le hz)) ⟨hl,hb,h⟩
noncomputable def Km (c:Cx)(n:Nat)(hp:List O):(op:Op)→(a b:V)→Option (Rs V fun v hp'=>cG c n hp (inplaceOp (fA op)) c.VT a b v hp')
 |.add,.dat (.int x),.dat (.int y)=>some ⟨.dat (.int (x+y)),hp,true,fun _ _ _ _ _ _ z (.mk _) (.mk _)=>PySem.P.iadd_int (d8 z)⟩
 |.sub,.dat (.int x),.dat (.int y)=>some ⟨.dat (.int (x-y)),hp,true,fun _ _ _ _ _ _ z (.mk _) (.mk _)=>PySem.P.isub_int (d8 z)⟩
 |.add,.dat (.str x),.dat (.str y)=>some ⟨.dat (.str (x++y)),hp,Nat.ble (x.length+y.length) lim,fun g _ _ _ _ _ z (.mk _) (.mk _)=>SB.iadd (fun t' k=>oX x y▸jB z) (bH g)⟩
 |.add,.ref l,b=>tk (hp[l]?.bind O.lstE) fun xs e=>tk (items b hp) fun ys e'=>some ⟨.ref l,hp.set l (.lst (xs++ys)),Nat.ble (xs.length+ys.length) lim,fun g _ W _ u u' z h h'=>match u',z.rel.lst (c8 e),aT z.rel h' e' with
  |_,.mk us k I d,.mk a' us' k' I' d'=>by
   rw[show u=.ref (W.ρ l)from h.2]
   exact uS I I' (by rw[List.size_toArray,List.size_toArray,R2.len d,R2.len d'];exact bH g) (fH (t:=_) z (c8 e) I (R2.app d d') (List.append_toArray us us').symm.symm ⟨h.1,rfl⟩)⟩
 |_,_,_=>none
noncomputable def BH (c:Cx)(n:Nat)(hp:List O)(x:Nm)(k:Int)(a:Nat)(e:uR x k=some a):Rs V fun v hp'=>cG c n hp getItem c.VT (.dat (.str x)) (.dat (.int k)) v hp':=
 ⟨.dat (.str [a]),hp,c9 k,fun g _ _ _ _ _ z (.mk _) (.mk _)=>(aJ e).elim fun j q=>have l:=kK g
  PySem.P.getItem_str (c:=a) (Bool.or_eq_false_iff.mpr ⟨decide_eq_false (Int.not_lt.mpr l.1),decide_eq_false (Int.not_le.mpr l.2)⟩) (by rw[kM,(kN q.1).1,Option.bind_some];exact(List.getElem?_toArray ..).trans q.2) (jB (x:=[a]) z)⟩
noncomputable def uT (c:Cx)(n:Nat)(hp:List O)(o:V)(k:Int):Option (Rs V fun v hp'=>cG c n hp getItem c.VT o (.dat (.int k)) v hp'):=
 w6 (items o hp) (fun xs e=>tk (uR xs k) fun x e2=>some ⟨x,hp,c9 k,fun g _ _ _ u _ z h (.mk _)=>match u,aT z.rel h e with
   |_,.mk a us m I d=>(aJ e2).elim fun j q=>(R2.at d q.2).elim fun y r=>by
    have l:=kK g
    have i:=kN q.1
    have r1:us.toArray[j]? =some y:=(List.getElem?_toArray ..).trans r.1
    rcases i.2.1 with⟨i1,i2⟩|⟨i1,i2,i3⟩
    ·exact wpAny_getItem_list ⟨_,I,rfl,m,rfl⟩ i1 l.2 (i2.symm▸r1) (.here z r.2)
    ·have sz:us.toArray.size=xs.length:=List.size_toArray.trans (R2.len d)
     exact wpAny_getItem_list_neg ⟨_,I,rfl,m,rfl⟩ i1 (sz.symm▸i2) l.1 (by rw[sz,i3];exact r1) (.here z r.2)⟩)
  fun _=>tk (dN o hp) fun xs e=>tk (uR xs k) fun x e2=>some ⟨x,hp,c9 k,fun g _ _ _ u _ z h (.mk _)=>match u,dO z.rel h e with
   |_,.mk a us m I d=>(aJ e2).elim fun j q=>(R2.at d q.2).elim fun y r=>have l:=kK g
    PySem.P.getItem_tuple I l.1 l.2 (by rw[List.size_toArray,R2.len d];exact(kN q.1).1) ((List.getElem?_toArray ..).trans r.1) (.here z r.2)⟩
theorem sE {en:List DictEntry}{k:Nat}{es:List (Nm×V)}{x:Nm}{v:V}{a:Addr}{t:Tok}(z:At c n A W hp s)(E:ER c.P W es en)(g:s.heap.get? a=some ⟨.type "dict",none,.dict en.toArray k,#[]⟩)(e:lk es x=some v):c.wp A (getItem (.ref a) (.str (st x) t)) (Post c c.VT W hp s v hp) s:=
 (E.find e).elim fun u r=>wpAny_getItem_of (knd:=SK c) (beq_self_eq_true _:Value.isStrOf (st x) (.str (st x) t)=true) (BG E g) (xC r.1) (.tok z r.2)
theorem BI {x:Nm}{d:D}:∀ {es:List (Nm×D)},lk es x=some d→lk (es.map fun p=>(p.1,V.dat p.2)) x=some (.dat d)
 |p::r,e=>by
  unfold lk at e ⊢
  show(match nb p.1 x with|true=>_|false=>_)=_
  cases q:nb p.1 x with
  |true=>rw[q]at e;exact congrArg (fun d=>some (V.dat d)) (Option.some.inj e)
  |false=>rw[q]at e;exact BI e
noncomputable def Oq (c:Cx)(n:Nat)(hp:List O):(o i:V)→Option (Rs V fun v hp'=>cG c n hp getItem c.VT o i v hp')
 |.dat (.str x),.dat (.int k)=>tk (uR x k) fun a e=>some (BH c n hp x k a e)
 |.dat (.dct es),.dat (.str x)=>tk (lk es x) fun d e=>some ⟨.dat d,hp,true,fun _ _ _ _ _ _ z (.mk _ _ _ f q) (.mk _)=>sE z (DRe.er q) (z.rel.fz _ _ f) (BI e)⟩
 |.ref l,.dat (.str x)=>tk (hp[l]?.bind O.nsE) fun es e=>tk (lk es x) fun v e2=>some ⟨v,hp,true,fun _ _ W _ u _ z h (.mk _)=>match z.rel.ns (gH e)with
  |.mk en k g E _=>(show u=.ref (W.ρ l)from h.2)▸sE z E g e2⟩
 |o,.dat (.int k)=>uT c n hp o k
 |_,_=>none
theorem BJ {l:Addr}{us:Array Value}{m:Nat}{k:Int}{j:Nat}{t:Tok}{v:Value}{Q:Unit→Shared→Prop}(hl:IsL s.heap l us m)(hj:oA k us.size=some j)(g:c9 k=true)
  (h:Q () {s with heap:=s.heap.update l (Obj.mapSeq (·.setIfInBounds j v))}):c.wp A (setItem (.ref l) (.int k t) v) Q s:=by
 have i:=kN hj
 have at_:us[j]? =some us[j]:=Array.getElem?_eq_getElem i.2.2
 have ty:s.TypeIs (.ref l) "list" :=⟨_,hl,rfl⟩
 unfold setItem
 refine wpAny_holding (bK (wpAny_sequenceKey ty (by decide) ?_))
 refine bK (wpAny_callSpecial?_slot (name:=Str.ofString "__setitem__") ty slot_list_setitem (wpAny_call_entry slot_list_setitem ty entry_list_setitem ?_ (args_list_setitem _ _ _)))
 show wpAny _ _ (Builtin.List.listSubscript? (.int k t) >>= _) _ _ s
 refine bK (wpAny_listSubscript_int (Bool.and_eq_true_iff.mpr ⟨decide_eq_true (kK g).1,decide_eq_true (kK g).2⟩) ?_)
 have fin:wpAny c.M A.in1 (setSeqItemAt l j v >>= fun _=>ret .none) (fun fin s'=>∃ r,fin=.done (.ret r)∧wpAny c.M A (pure ():Sem Unit) Q no s') no s:=
  bK (wpAny_setSeqItemAt hl rfl (wpAny_pure ⟨.none,rfl,wpAny_pure h⟩))
 cases k with
 |ofNat m=>
  obtain rfl:m=j:=i.2.1.elim (fun q=>q.2) fun q=>absurd q.1 (Int.not_lt.mpr (Int.natCast_nonneg m))
  show wpAny _ _ ((seqItemAt l m >>= fun r=>pure (r.map (m,·))) >>= _) _ _ s
  refine bK (bK (wpAny_seqItemAt hl rfl (wpAny_pure ?_)))
  rw[at_]
  exact fin
 |negSucc m=>
  show wpAny _ _ ((Builtin.List.listItems (.ref l) >>= fun xs=>pure ((seqIndex? (Int.negSucc m) xs.size).bind fun i=>xs[i]?.map (i,·))) >>= _) _ _ s
  refine bK (bK ?_)
  show wpAny _ _ (seqItems? (.ref l) >>= _) _ _ s
  refine bK (wpAny_seqItems hl rfl (wpAny_pure (wpAny_pure ?_)))
  rw[i.1,Option.bind_some,at_]
  exact fin
noncomputable def Kn (c:Cx)(n:Nat)(hp:List O):(o i x:V)→Option (Rs Unit fun _ hp'=>∀ A W s u v w,At c n A W hp s→VR c.P W o u→VR c.P W i v→VR c.P W x w→c.wp A (setItem u v w) (Post c p7 W hp s () hp') s)
 |.ref l,.dat (.int k),x=>tk (hp[l]?.bind O.lstE) fun xs e=>tk (oA k xs.length) fun j e2=>some ⟨(),hp.set l (.lst (xs.set j x)),c9 k,fun g _ W _ u _ _ z h (.mk _) hx=>match z.rel.lst (c8 e)with
  |.mk us m I d=>by
   rw[show u=.ref (W.ρ l)from h.2]
   exact BJ I (by rw[List.size_toArray,R2.len d];exact e2) g (fH (t:=_) z (c8 e) I (R2.set d hx) (by rw[List.setIfInBounds_toArray]) trivial)⟩
 |.ref l,.dat (.str y),x=>tk (hp[l]?.bind O.nsE) fun es e=>some ⟨(),hp.set l (.ns (pt es y x)),Nat.ble es.length lim,fun g _ W s u _ _ z h (.mk t) hx=>match z.rel.ns (gH e)with
  |.mk en k gd E nd=>(ER.rows E).elim fun ks r=>by
   rw[show u=.ref (W.ρ l)from h.2]
   refine wpAny_setItem_pairs (knd:=SK c) (beq_self_eq_true _:Value.isStrOf (st y) (.str (st y) t)=true) ⟨_,_,k,gd,⟨rfl,rfl,rfl⟩,rfl,E.keysOf,r.2,by rw[KR.keys r.1];exact gK nd⟩ (fun h' d' sb=>?_) (by rw[R2.len r.1];exact bH g)
   have q:=z.rel.change (o':=.ns (pt es y x)) (gH e) (fun b ne=>sb.2 b ne) (kL d' (g8 hx r.1 nd) (gG y x nd)) (z.rel.nof (gH e) fun _=>nofun)
   exact .mk W q.1 (.of q.2) trivial⟩
 |_,_,_=>none
end
end
section
open PySem.Builtin.Str PySem.StrLaws
noncomputable def fI (y z:List Nat):Nat→List Nat→List Nat
 |_,[]=>[]
 |0,c::r=>if y.isPrefixOf (c::r)then z++fI y z (y.length-1) r else c::fI y z 0 r
 |k+1,_::r=>fI y z k r
theorem xG (y z:List Nat)(k:Nat):fI y z k []=[]:=by cases k <;>rfl
theorem sH (y z:List Nat):∀ (k:Nat) (l:List Nat),fI y z k l=fI y z 0 (l.drop k)
 |0,l=>rfl
 |k+1,[]=>by simp[xG]
 |k+1,_::r=>by rw[fI,sH y z k r];rfl
theorem mN (y z:List Nat):∀ (n:Nat) (l:List Nat),(∀ k,k<n→y.isPrefixOf (l.drop k)=false)→fI y z 0 l=l.take n++fI y z 0 (l.drop n)
 |0,l,_=>by simp
 |n+1,[],_=>by simp[fI]
 |n+1,c::r,h=>by
  have h0:=h 0 (by lia)
  rw[fI,if_neg (by rw[List.drop_zero]at h0;rw[h0];simp),mN y z n r fun k hk=>h (k+1) (by lia)]
  simp
theorem xH {y z l:List Nat}(hy:y≠[])(h:y.isPrefixOf l=true):fI y z 0 l=z++fI y z 0 (l.drop y.length):=by
 cases l with
 |nil=>cases y with
  |nil=>exact absurd rfl hy
  |cons _ _=>simp at h
 |cons c r=>
  rw[fI,if_pos h,sH]
  cases y with
  |nil=>exact absurd rfl hy
  |cons a y=>simp
theorem xI (y l:List Nat):y.isPrefixOf l=(l.take y.length==y):=by
 rw[Bool.eq_iff_iff,List.isPrefixOf_iff_prefix,beq_iff_eq,List.prefix_iff_eq_take]
 exact⟨fun h=>h.symm,fun h=>h.symm⟩
theorem qI {y:List Nat}(h:y≠[]):0<y.length:=by cases y <;>simp_all
theorem d4 (x:List Nat):(st x).length=x.length:=by simp[st,Str.length]
theorem cV (x:List Nat):(st x).cps.toList=x:=by simp[st]
theorem uU {x y:List Nat}{i:Nat}(hy:y≠[]):PySem.StrLaws.At (st x) (st y) (st x).length i↔y.isPrefixOf (x.drop i)=true:=by
 unfold PySem.StrLaws.At
 rw[subAt_eq,d4,d4,cV,cV,xI]
 refine⟨fun h=>h.2,fun h=>⟨?_,h⟩⟩
 have h:=beq_iff_eq.mp h
 have hl:=congrArg List.length h
 rw[List.length_take,List.length_drop]at hl
 have:0<y.length:=qI hy
 omega
theorem oZ (z p q:Str)(r:List Str):(Str.join z (p::q::r)).cps.toList=p.cps.toList++z.cps.toList++(Str.join z (q::r)).cps.toList:=by
 show(p++z++Str.join z (q::r)).cps.toList=_
 simp[Str.cps_append]
theorem o4 (x y z:List Nat)(hy:y≠[]):∀ (cuts:List Nat) (a f:Nat),ChainG (st x) (st y) (st x).length a cuts f→(∀ k,f≤k→¬ PySem.StrLaws.At (st x) (st y) (st x).length k)→
  (Str.join (st z) (partsFrom (st x) (st y).length a cuts)).cps.toList=fI y z 0 (x.drop a)
 | [],a,f,h,hn=>by
  have h:f=a:=h
  subst h
  show(strSub (st x) f (st x).length).cps.toList=_
  rw[strSub_toList,cV,d4,List.take_of_length_le (by simp)]
  rw[mN y z (x.drop f).length (x.drop f) fun k _=>?_]
  ·rw[List.drop_of_length_le (Nat.le_refl _),xG,List.take_of_length_le (Nat.le_refl _),List.append_nil]
  ·have:=hn (f+k) (by lia)
   rw[uU hy,← List.drop_drop]at this
   exact Bool.eq_false_iff.mpr this
 |c::r,a,f,h,hn=>by
  obtain⟨h1,h2,h3,h4⟩:=h
  have ih:=o4 x y z hy r (c+(st y).length) f h4 hn
  obtain⟨p,q,e⟩:=partsFrom_ne (st x) (st y).length (c+(st y).length) r
  show(Str.join (st z) (strSub (st x) a c::partsFrom (st x) (st y).length (c+(st y).length) r)).cps.toList=_
  rw[e]at ih ⊢
  rw[oZ,ih,strSub_toList,cV,cV]
  rw[mN y z (c-a) (x.drop a) fun k hk=>?_]
  ·rw[List.drop_drop,show a+(c-a)=c by lia,xH hy ((uU hy).mp h2),List.drop_drop,d4]
   simp
  ·have:=h3 (a+k) (by lia) (by lia)
   rw[uU hy,← List.drop_drop]at this
   exact Bool.eq_false_iff.mpr this
set_option tactic.hygienic true in
theorem uV (x y z:List Nat)(hy:y≠[]):(Txt.replace (st x) (st y) (st z)).cps.toList=fI y z 0 x:=by
 obtain⟨f,h1,h2⟩:=occ_tight (st x) (st y) (by rw[d4];exact qI hy)
 have key:=o4 x y z hy _ 0 f h1 h2
 unfold Txt.replace
 split
 ·rename_i hc
  have:((st y).length==0)=false:=by rw[d4];simp[hy]
  rw[this]at hc
  simp only[Bool.false_and,Bool.or_false]at hc
  have hc:=List.isEmpty_iff.mp hc
  rw[hc]at key
  rw[List.drop_zero]at key
  rw[← key]
  show(st x).cps.toList=(strSub (st x) 0 (st x).length).cps.toList
  rw[strSub_toList,cV,d4];simp
 ·rw[glued_eq_join,partsBetween_eq,key];simp
theorem eT {y z:List Nat}(hy:y≠[])(h:z.length≤y.length):∀ (n:Nat) (l:List Nat),l.length≤n→(fI y z 0 l).length≤l.length
 |0,l,hn=>by have:l=[]:=List.length_eq_zero_iff.mp (by lia);subst this;simp[fI]
 |n+1,[],_=>by simp[fI]
 |n+1,c::r,hn=>by
  have hl:0<y.length:=qI hy
  cases e:y.isPrefixOf (c::r)with
  |true=>
   rw[xH hy e]
   have he:(List.take y.length (c::r)).length=y.length:=by
    rw[xI]at e
    rw[beq_iff_eq.mp e]
   rw[List.length_take]at he
   have:=eT hy h n ((c::r).drop y.length) (by rw[List.length_drop];simp only[List.length_cons]at *;lia)
   rw[List.length_append]
   rw[List.length_drop]at this
   simp only[List.length_cons]at *
   lia
  |false=>
   rw[fI,if_neg (by rw[e];simp)]
   have:=eT hy h n r (by simp only[List.length_cons]at hn;lia)
   simp only[List.length_cons]
   lia
theorem o5:∀ (ss:List (List Nat)),(Str.join (st []) (ss.map st)).cps.toList=ss.flatten
 | []=>rfl
 | [x]=>by show(st x).cps.toList=_;simp[st]
 |x::y::r=>by
  have ih:=o5 (y::r)
  rw[List.map_cons,List.map_cons,oZ]
  rw[List.map_cons]at ih
  rw[ih,cV,cV]
  simp
theorem BK (ss:List (List Nat)):(Txt.join (st []) (ss.map st)).cps.toList=ss.flatten:=by
 unfold Txt.join
 rw[glued_eq_join,o5]
theorem zW (ss:List (List Nat))(h:ss.flatten.length≤1048576):JoinOk (st []) (ss.map st)=true:=by
 have key:∀ (ss:List (List Nat)) (k:Nat),(ss.map st).foldl (fun a p=>a+p.length+(st []).length) k=k+ss.flatten.length:=by
  intro ss
  induction ss with
  |nil=>intro k;simp
  |cons x r ih=>
   intro k
   rw[List.map_cons,List.foldl_cons,ih,d4,d4]
   simp;lia
 unfold JoinOk
 rw[List.foldl_toArray]
 have e:(ss.map st).foldl (· +·.length+(st []).length) 0=ss.flatten.length:=by
  have:=key ss 0
  simpa using this
 unfold tooLong
 rw[e]
 have:sizeLine=16777216:=by decide
 simp only[this,Bool.not_eq_true',decide_eq_false_iff_not]
 lia
end
section
open PySem.Builtin.Str (strSliceIndices occurrences lastOccurrence)
inductive Keep (M:Model) (h:Heap) (f:Value):Prop
 |mk (k:Keeper) (o:k=Keeper.frame∨k=Keeper.machine∨k=Keeper.boundFrame) (l:Looks M h (keeperOf f) k)
theorem Keep.of {M:Model}{h:Heap}{f:Value}:(∃ k,(k=Keeper.frame∨k=Keeper.machine∨k=Keeper.boundFrame)∧Looks M h (keeperOf f) k)→Keep M h f
 |⟨k,o,l⟩=>.mk k o l
theorem Keep.blt {M:Model}{h:Heap}(i:String):Keep M h (.builtin i):=.mk .machine (.inr (.inl rfl)) .now
theorem Keep.typ {M:Model}{h:Heap}(i:String):Keep M h (.type i):=.mk .machine (.inr (.inl rfl)) .now
set_option tactic.hygienic true in
theorem jC {K:Frag}{a:Nat}(h:fnIn K a=true):keepIn K (.ref a)=true:=by
 unfold fnIn at h
 unfold keepIn
 split at h
 ·rename_i e;dsimp only;rw[e]
 ·cases h
noncomputable def xJ:Nm:=Xn
theorem GL:st xJ=("__init__" :Str):=by decide+kernel
noncomputable def uW (c:Cx)(n:Nat)(hp:List O)(f:V)(args:List V)(v:V)(hp':List O):Prop:=
 ∀ A W s fv vals,At c n A W hp s→VR c.P W f fv→VRs c.P W args vals→Keep c.M s.heap fv∧c.wp A (call fv vals) (Post c c.VT W hp s v hp') s
section
variable {c:Cx}{n:Nat}{A:Around}{W:Wd}{hp hp':List O}{s:Shared}{v:V}{args:List V}
theorem g9 {f:Value}{vals:List Value}(h:codeAny c.M A (.call f ⟨vals,[]⟩) (fun r s'=>RetOk (Post c c.VT W hp s v hp') s' r) s):c.wp A (call f vals) (Post c c.VT W hp s v hp') s:=
 wpAny_call (codeAny_mono h fun _ _ q=>(by rcases q with⟨_,p⟩;exact p))
theorem Ot {a:Nat}(h:CallOk c n a args hp v hp'):uW c n hp (.top a) args v hp':=fun A W s fv vals z hf hv=>(show fv=.ref a from hf) ▸ ⟨.of (keeps_K (jC h.fn) _ z.In),g9 (h.run A W s vals _ .pos z hv)⟩
theorem Ko {f l:Nat}(h:CallOk c n f (.ref l::args) hp v hp'):uW c n hp (.mth f l) args v hp':=fun A W s _ vals z (.mk _ lt hz) hv=>
 ⟨.of (keeps_M h.fn _ ⟨z.rel.fz _ _ hz,z.In⟩),g9 (method_call (z.rel.fz _ _ hz) (h.run A W s _ _ .pos z (.mk ⟨lt,rfl⟩ hv)))⟩
theorem Kq {a i:Nat}{cl:Cl}(hc:qB c.G.cls a=some cl)(hi:lk cl.meths xJ=some i)(h:CallOk c n i (.ref (hp.length+1)::args) (hp++[.ns [],.ins a hp.length]) (.dat .non) hp'):uW c (n+1) hp (.top a) args (.ref (hp.length+1)) hp':=fun A W s fv vals z hf hv=>by
 rw[show fv=.ref a from hf]
 have C:=BB hc
 have KI:=z.In
 have m:=C.meths xJ i hi
 have mf:=m.find
 rw[GL]at mf
 refine⟨.of (keeps_K C.keep _ KI),g9 ?_⟩
 obtain⟨hh,g,d,t,os⟩:=s
 refine make_core (makes_of KI C.makes) (looks_findIn KI mf) (fun self=>bind_fn KI self m.type) (.inl rfl) ?_
 have x:=z.rel.alloc (o:=.ns []) (ob:=emptyDict) ⟨List.nodup_nil,.mk [] 0 rfl⟩
 have lt:hp.length < (W.push hh.objs.size).n:=z.rel.len▸Nat.lt_succ_self _
 have y:=x.1.alloc (o:=.ins a hp.length) (ob:=instObj a hh.objs.size) (by
  have e:((W.push hh.objs.size).push (hh.push emptyDict).objs.size).ρ hp.length=hh.objs.size:=((Wd.le_push _ _).ρ _ lt).trans (z.rel.push_at _)
  exact Eq.mp (congrArg (fun q=>OIns ((W.push hh.objs.size).push (hh.push emptyDict).objs.size) a hp.length ⟨.ref a,some q,.plain,#[]⟩) e) (.mk (Nat.lt_succ_of_lt lt)))
 rw[List.append_assoc]at y
 rw[Heap.size_push]at y
 have E:=x.2.trans y.2
 have at_:((W.push hh.objs.size).push (hh.objs.size+1)).ρ (hp.length+1)=hh.objs.size+1:=if_pos (congrArg (· +1) z.rel.len.symm)
 have SR:hp.length+1 < ((W.push hh.objs.size).push (hh.objs.size+1)).n:=Nat.succ_lt_succ lt
 have hw:Code.weight (.builtin "type.__call__" ⟨.ref a::vals,[]⟩)=1:=by kernel_rfl
 have hu:Code.cUnits (.builtin "type.__call__" ⟨.ref a::vals,[]⟩)=1:=by kernel_rfl
 have z':At c n (A.under (.builtin "type.__call__" ⟨.ref a::vals,[]⟩)) _ (hp++[.ns [],.ins a hp.length]) ⟨(hh.push emptyDict).push (instObj a hh.objs.size),g,d,t,os⟩:=
  ⟨z.room.under (hw▸by decide) (hu▸by decide),y.1,fun b o e=>E.le.fz b o (z.kin b o e),z.tk,(z.fs.under (by cases A.frames <;>rfl)).ext E⟩
 refine codeAny_mono (h.run _ _ _ (.ref (hh.objs.size+1)::vals) _ .pos z' (.mk ⟨SR,congrArg Value.ref at_.symm⟩ (VRs.mono E.le hv))) fun r s' q=>?_
 match q with
 |.mk u (.mk W' R' L x')=>
  obtain rfl:u=.none:=x'
  exact⟨rfl,.mk _ (.mk W' R' ⟨E.trans L.e,L.g,L.o⟩ ⟨Nat.lt_of_lt_of_le SR L.le.n,congrArg Value.ref (((L.le.ρ _ SR).trans at_).symm)⟩)⟩
noncomputable def V.intE:V→Option Int
 |.dat (.int i)=>some i
 |_=>none
noncomputable def V.strE:V→Option Nm
 |.dat (.str x)=>some x
 |_=>none
theorem dA {P:Params}{v:V}{i:Int}{u:Value}(e:v.intE=some i)(h:VR P W v u):∃ t,u=.int i t:=by
 cases v with
 |dat d=>cases d with
  |int j=>exact match u,(h:IsI j u)with|_,.mk t=>⟨t,Option.some.inj e▸rfl⟩
  |_=>cases e
 |_=>cases e
theorem eU {P:Params}{v:V}{x:Nm}{u:Value}(e:v.strE=some x)(h:VR P W v u):∃ t,u=.str (st x) t:=by
 cases v with
 |dat d=>cases d with
  |str y=>exact match u,(h:IsS y u)with|_,.mk t=>⟨t,Option.some.inj e▸rfl⟩
  |_=>cases e
 |_=>cases e
theorem bU {α β:Type}{R:α→β→Prop}{x:α}{us:List β}:R2 R [x] us→∃ u,us=[u]∧R x u
 |.mk a r=>⟨_,by rw[show _=[]from r],a⟩
theorem eV {α β:Type}{R:α→β→Prop}{x y:α}{us:List β}:R2 R [x,y] us→∃ u v,us=[u,v]∧R x u∧R y v
 |.mk a r=>(bU r).elim fun v q=>⟨_,v,by rw[q.1],a,q.2⟩
theorem grown {h':Heap}{t:Nat}{RR:RT V Value}{u:Value}(z:At c n A W hp s)(hk:∀ b o,s.heap.get? b=some o→h'.get? b=some o)(x:RR W v u):Post c RR W hp s v hp u {s with heap:=h',toks:=t}:=
 .mk W (z.rel.via (k:=id) z.rel.len (fun a o e=>hk _ _ (z.rel.fz a o e)) z.rel.nf (fun _ o v=>.mk o v rfl ((z.rel.obj _ _ v).imp (fun _=>hk _ _) fun _=>id) (z.rel.cold _ _ v)) fun _ _ _ _=>id)
  ⟨⟨.refl W,fun a o e=>⟨fun _=>.here (hk a o e),id,.here (hk a o e),fun _=>.inl⟩⟩,.refl _,rfl⟩ x
set_option genCtorIdx true in
inductive Bi where|len|ord|chr|max
noncomputable def Kr (i:String):Option Bi:=if i="len" then some .len else if i="ord" then some .ord else if i="chr" then some .chr else if i="max" then some .max else none
noncomputable def GN:Bi→String
 |.len=>"len" |.ord=>"ord" |.chr=>"chr" |.max=>"max"
set_option tactic.hygienic true in
theorem Ou {i:String}{b:Bi}(e:Kr i=some b):i=GN b:=by
 unfold Kr at e
 split at e
 ·rename_i h;exact Option.some.inj e▸h
 split at e
 ·rename_i h;exact Option.some.inj e▸h
 split at e
 ·rename_i h;exact Option.some.inj e▸h
 split at e
 ·rename_i h;exact Option.some.inj e▸h
 ·cases e
noncomputable def Ov (a b:Int):Int:=match i6 a b with
 |true=>b
 |false=>a
noncomputable def JY:Int→Bool
 |.ofNat n=>Nat.ble n 1114111
 |.negSucc _=>false
theorem BL {i:Int}(h:JY i=true):0≤i∧i≤1114111:=by
 cases i with
 |ofNat n=>exact⟨Int.natCast_nonneg n,Int.ofNat_le.mpr (Nat.le_of_ble_eq_true h)⟩
 |negSucc n=>cases h
noncomputable abbrev BT (c:Cx)(n:Nat)(hp:List O)(b:Bi)(args:List V):V→List O→Prop:=fun v hp'=>WD c n hp (fun us=>call (.builtin (GN b)) us) c.VT args v hp'
noncomputable def UD (c:Cx)(n:Nat)(hp:List O)(v:V):(b:Bi)→Option (Rs V (BT c n hp b [v]))
 |.len=>w6 v.strE (fun x e=>some ⟨.dat (.int x.length),hp,Nat.ble x.length lim,fun g _ _ _ _ z h=>(bU h).elim fun u q=>(eU e q.2).elim fun t y=>by
   rw[q.1,y];exact PySem.P.len_str (x:=st x) (Int.not_le.mpr (i8 g)) (d8 z)⟩)
  fun _=>tk (items v hp) fun xs e=>some ⟨.dat (.int xs.length),hp,Nat.ble xs.length lim,fun g _ _ _ _ z h=>(bU h).elim fun u q=>by
   rw[q.1]
   exact match u,aT z.rel q.2 e with
   |_,.mk a us k I d=>have l:us.toArray.size=xs.length:=List.size_toArray.trans (R2.len d);call_len_list ⟨_,I,rfl,k,rfl⟩ (by rw[l];exact i8 g) (by rw[l];exact d8 z)⟩
 |.ord=>tk v.strE fun x e=>match x,e with
  | [a],e=>some ⟨.dat (.int a),hp,true,fun _ _ _ _ _ z h=>(bU h).elim fun u q=>(eU e q.2).elim fun t y=>by
    rw[q.1,y];exact PySem.P.ord_of_char (d8 z)⟩
  |_,_=>none
 |.chr=>tk v.intE fun i e=>some ⟨.dat (.str [i.toNat]),hp,JY i,fun g _ _ _ _ z h=>(bU h).elim fun u q=>(dA e q.2).elim fun t y=>by
   rw[q.1,y];exact chr_of_range (BL g).1 (BL g).2 (jB (x:=[i.toNat]) z)⟩
 |.max=>none
noncomputable def UE (c:Cx)(n:Nat)(hp:List O)(v w:V):(b:Bi)→Option (Rs V (BT c n hp b [v,w]))
 |.max=>tk v.intE fun a e=>tk w.intE fun b e2=>some ⟨.dat (.int (Ov a b)),hp,true,fun _ _ _ _ _ z h=>(eV h).elim fun u q=>q.elim fun u' q=>(dA e q.2.1).elim fun t y=>(dA e2 q.2.2).elim fun t' y'=>by
   rw[q.1,y,y']
   refine max_two_ints z.room.hd fun h' k hk=>?_
   unfold Ov
   rw[← cX]
   by_cases q:b>a
   ·rw[if_pos q,decide_eq_true q];exact grown z hk (.mk t')
   ·rw[if_neg q,decide_eq_false q];exact grown z hk (.mk t)⟩
 |_=>none
noncomputable def Wn (c:Cx)(n:Nat)(hp:List O)(b:Bi):(args:List V)→Option (Rs V (BT c n hp b args))
 | [v]=>UD c n hp v b
 | [v,w]=>UE c n hp v w b
 |_=>none
theorem uX {v:V}{ob:Obj}{t:Nat}(z:At c n A W hp s)(hf:ob.isFreed=false)(x:VR c.P (W.freeze s.heap.objs.size ob) v (.ref s.heap.objs.size))(hn:frm ob=false:=by rfl):Post c c.VT W hp s v hp (.ref s.heap.objs.size) {s with heap:=s.heap.push ob,toks:=t}:=
 have y:=z.rel.allocZ hf hn
 .mk _ y.1 (.of y.2) x
noncomputable abbrev TT (c:Cx)(n:Nat)(hp:List O)(t:String)(args:List V):V→List O→Prop:=fun v hp'=>WD c n hp (fun us=>call (.type t) us) c.VT args v hp'
noncomputable def UG (c:Cx)(n:Nat)(hp:List O)(t:String):(args:List V)→Option (Rs V (TT c n hp t args))
 | [v]=>tk v.intE fun b e=>some ⟨.rng 0 b,hp,decide (t="range"),fun g _ _ _ _ z h=>(bU h).elim fun u q=>(dA e q.2).elim fun _ y=>by
   rw[q.1,y,of_decide_eq_true g];exact call_range_1 (uX z rfl (.mk _ _ _ _ (if_pos rfl)))⟩
 | [v,w]=>tk v.intE fun a e=>tk w.intE fun b e2=>some ⟨.rng a b,hp,decide (t="range"),fun g _ _ _ _ z h=>(eV h).elim fun u q=>q.elim fun u' q=>(dA e q.2.1).elim fun _ y=>(dA e2 q.2.2).elim fun _ y'=>by
   rw[q.1,y,y',of_decide_eq_true g];exact call_range_2 (uX z rfl (.mk _ _ _ _ (if_pos rfl)))⟩
 |_=>none
set_option genCtorIdx true in
inductive Bm where|join|count|rfind|append|pop|starts
noncomputable def GO:Bm→String
 |.join=>"str.join" |.count=>"str.count" |.rfind=>"str.rfind" |.append=>"list.append" |.pop=>"list.pop" |.starts=>"str.startswith"
inductive MC where
 |fn (f l:Nat)|fnT (f a:Nat)|val (v:V)|lst (l:Nat) (b:Bm)|str (s:List Nat) (b:Bm)
noncomputable def McR (P:Params):RT MC (Value×List Value):=fun W m x=>match m with
 |.fn f l=>l<W.n∧x=(.ref f,[.ref (W.ρ l)])
 |.fnT f a=>x=(.ref f,[.ref a])
 |.val v=>∃ u,x=(u,[])∧VR P W v u
 |.lst l b=>l<W.n∧x=(.builtin (GO b),[.ref (W.ρ l)])
 |.str s b=>∃ t,x=(.builtin (GO b),[.str (st s) t])
theorem McR.mono {P:Params}{W':Wd}(l:W.le W'){x:Value×List Value}:∀ {m:MC},McR P W m x→McR P W' m x
 |.fn _ i,h=>⟨Nat.lt_of_lt_of_le h.1 l.n,l.ρ i h.1▸h.2⟩
 |.fnT _ _,h=>h
 |.val _,⟨u,e,h⟩=>⟨u,e,h.mono l⟩
 |.lst i _,h=>⟨Nat.lt_of_lt_of_le h.1 l.n,l.ρ i h.1▸h.2⟩
 |.str _ _,h=>h
noncomputable def JZ:Nm:=[106,111,105,110]
noncomputable def BM:Nm:=[99,111,117,110,116]
noncomputable def BN:Nm:=[114,102,105,110,100]
noncomputable def xK:Nm:=[97,112,112,101,110,100]
noncomputable def Ow:Nm:=[112,111,112]
noncomputable def xL:Nm:=[115,116,97,114,116,115,119,105,116,104]
theorem zX:st xL=("startswith" :Str):=by decide+kernel
noncomputable def Ox:Nm→Nm→Bool
 | [],_=>true
 |a::r,x=>match x with
  | []=>false
  |b::q=>match Nat.beq a b with
   |true=>Ox r q
   |false=>false
theorem BO:∀ (y x:Nm),(decide (y.length≤x.length)&&(x.take y.length==y))=Ox y x
 | [],x=>by rw[List.length_nil,List.take_zero];rfl
 |a::r,[]=>rfl
 |a::r,b::q=>by
  have ih:=BO r q
  rw[List.length_cons,List.length_cons,List.take_succ_cons]
  show(_&&((b==a)&&(q.take r.length==r)))=(match Nat.beq a b with|true=>Ox r q|false=>false)
  cases e:Nat.beq a b with
  |true=>
   rw[Nat.eq_of_beq_eq_true e,beq_self_eq_true,Bool.true_and,← ih]
   exact congrArg (· &&_) (decide_eq_decide.mpr (Nat.succ_le_succ_iff))
  |false=>
   have ne:(b==a)=false:=beq_eq_false_iff_ne.mpr fun q=>by rw[q,Nat.beq_refl]at e;cases e
   rw[ne,Bool.false_and,Bool.and_false]
theorem Ks (x y:Nm):Txt.startswith (st x) (st y)=Ox y x:=by
 rw[← BO]
 unfold Txt.startswith
 rw[PySem.StrLaws.subAt_eq,cV,cV,Nat.zero_add]
 rfl
theorem GP:st JZ=("join" :Str):=by decide+kernel
theorem BP:st BM=("count" :Str):=by decide+kernel
theorem BR:st BN=("rfind" :Str):=by decide+kernel
theorem uY:st xK=("append" :Str):=by decide+kernel
theorem Kt:st Ow=("pop" :Str):=by decide+kernel
noncomputable def Ja {α:Type}(b:Bool)(f:b=true→α)(g:α):α:=match b,f with
 |true,f=>f rfl
 |false,_=>g
noncomputable abbrev GT (c:Cx)(n:Nat)(hp:List O)(o:V)(m:Nm):MC→List O→Prop:=fun k hp'=>∀ pl,Ax c n hp (fun u=>getMethod u (st m) pl) (McR c.P) o k hp'
section
variable {c:Cx}{n:Nat}{A:Around}{W:Wd}{hp hp':List O}{s:Shared}{u:Value}{m:Nm}{l:Nat}{I:Ins}{cl:Cl}{pl:Sem Bool}(z:At c n A W hp s)(h:VR c.P W (.ref l) u)
include z h
theorem GS {y:V}(e:rW hp l=some I)(e2:qB c.G.cls I.c=some cl)(e3:lk I.es m=some y)(g:(bM m cl.fields&&y.plain)=true):c.wp A (getMethod u (st m) pl) (Post c (McR c.P) W hp s (.val y) hp) s:=match iI z.rel e,BB e2,Bool.and_eq_true_iff.mp g with
 |.mk en k lv nd E gd a,C,⟨g1,g2⟩=>(E.find e3).elim fun w r=>by
  rw[show u=.ref (W.ρ l)from h.2]
  exact method_usual z.In a (plainGet_of C.get).1 (plainGet_of C.get).2 (C.fields m g1) rfl (get_value z.In a (plainGet_of C.get).1 (findObj_own C.dict (C.fields m g1) rfl (E.look _ _ _ _ _ r.1)) (V.plain_handed g2 r.2) (.tok z ⟨_,rfl,r.2⟩))
theorem Ku {f:Nat}(e:rW hp l=some I)(e2:qB c.G.cls I.c=some cl)(e3:lk I.es m=none)(e4:lk cl.meths m=some f):c.wp A (getMethod u (st m) pl) (Post c (McR c.P) W hp s (.fn f l) hp) s:=match iI z.rel e,BB e2 with
 |.mk en k lv nd E gd a,C=>by
  rw[show u=.ref (W.ρ l)from h.2]
  have q:=C.meths m f e4
  exact method_fn z.In a (plainGet_of C.get).1 (plainGet_of C.get).2 q.find q.type (by unfold shadowIn;dsimp only;rw[E.look (.type "dict") none k #[] none (E.miss e3)];rfl) (.here z ⟨h.1,rfl⟩)
omit h in
theorem GU {a f:Nat}{t:TI}(h:VR c.P W (.top a) u)(e:Fv c.G.tops a=some t)(e2:qB c.G.cls t.c=some cl)(e3:lk t.es m=none)(e4:lk cl.meths m=some f):c.wp A (getMethod u (st m) pl) (Post c (McR c.P) W hp s (.fnT f a) hp) s:=match uN z e,BB e2 with
 |.mk en k E a,C=>by
  rw[show u=.ref _ from h]
  have q:=C.meths m f e4
  exact method_fn z.In a (plainGet_of C.get).1 (plainGet_of C.get).2 q.find q.type (by unfold shadowIn;dsimp only;rw[E.look (.type "dict") none k #[] none (E.miss e3)];rfl) (.here z rfl)
theorem xM {xs:List V}(e:hp[l]?.bind O.lsE=some xs){b:Bm}(sl:Slot "list" (st m) (GO b))(ty:typeOf (Value.builtin (GO b))=pure (Value.type "method_descriptor")):c.wp A (getMethod u (st m) pl) (Post c (McR c.P) W hp s (.lst l b) hp) s:=by
 have h2:u=.ref (W.ρ l):=h.2
 cases xE z.rel h e with
 |mk a us k g d=>exact getMethod_list_of sl ty ⟨_,g,rfl,k,rfl⟩ ⟨_,g,rfl⟩ (.here z ⟨h.1,by rw[h2]⟩)
end
noncomputable def Kv (c:Cx)(n:Nat)(hp:List O):(o:V)→(m:Nm)→Option (Rs MC (GT c n hp o m))
 |.dat (.str x),m=>Ja (nb m JZ) (fun e=>some ⟨.str x .join,hp,true,fun _ pl _ _ _ _ z (.mk t)=>by rw[bO e,GP];exact GM.join (.here z ⟨t,rfl⟩)⟩)
  (Ja (nb m BM) (fun e=>some ⟨.str x .count,hp,true,fun _ pl _ _ _ _ z (.mk t)=>by rw[bO e,BP];exact GM.count (.here z ⟨t,rfl⟩)⟩)
  (Ja (nb m BN) (fun e=>some ⟨.str x .rfind,hp,true,fun _ pl _ _ _ _ z (.mk t)=>by rw[bO e,BR];exact GM.rfind (.here z ⟨t,rfl⟩)⟩)
  (Ja (nb m xL) (fun e=>some ⟨.str x .starts,hp,true,fun _ pl _ _ _ _ z (.mk t)=>by rw[bO e,zX];exact GM.startswith (.here z ⟨t,rfl⟩)⟩) none)))
 |.ref l,m=>w6 (rW hp l) (fun I e=>tk (qB c.G.cls I.c) fun cl e2=>w6 (lk I.es m) (fun y e3=>some ⟨.val y,hp,bM m cl.fields&&y.plain,fun g pl _ _ _ _ z h=>GS z h e e2 e3 g⟩)
   fun e3=>tk (lk cl.meths m) fun f e4=>some ⟨.fn f l,hp,true,fun _ pl _ _ _ _ z h=>Ku z h e e2 e3 e4⟩)
  fun _=>tk (hp[l]?.bind O.lsE) fun xs e=>Ja (nb m xK) (fun q=>some ⟨.lst l .append,hp,true,fun _ pl _ _ _ _ z h=>xM z h e (bO q▸uY▸F.slot_list_append) F.type_list_append⟩)
   (Ja (nb m Ow) (fun q=>some ⟨.lst l .pop,hp,true,fun _ pl _ _ _ _ z h=>xM z h e (bO q▸Kt▸F.slot_list_pop) F.type_list_pop⟩) none)
 |.top a,m=>tk (Fv c.G.tops a) fun t e=>tk (qB c.G.cls t.c) fun cl e2=>w6 (lk t.es m) (fun _ _=>none) fun e3=>tk (lk cl.meths m) fun f e4=>some ⟨.fnT f a,hp,true,fun _ pl _ _ _ _ z h=>GU z h e e2 e3 e4⟩
 |_,_=>none
noncomputable def xN (c:Cx)(n:Nat)(hp:List O)(m:MC)(args:List V)(v:V)(hp':List O):Prop:=
 ∀ A W s x vals,At c n A W hp s→McR c.P W m x→VRs c.P W args vals→Keep c.M s.heap x.1∧c.wp A (call x.1 (x.2++vals)) (Post c c.VT W hp s v hp') s
theorem Oy {c:Cx}{n f l:Nat}{hp hp':List O}{args:List V}{v:V}(h:CallOk c n f (.ref l::args) hp v hp'):xN c n hp (.fn f l) args v hp':=fun A W s x vals z hf hv=>by
 rw[hf.2]
 exact⟨.of (keeps_K (jC h.fn) _ z.In),g9 (h.run A W s _ _ .pos z (.mk ⟨hf.1,rfl⟩ hv))⟩
theorem Kw {c:Cx}{n f a:Nat}{hp hp':List O}{args:List V}{v:V}(h:CallOk c n f (.top a::args) hp v hp'):xN c n hp (.fnT f a) args v hp':=fun A W s x vals z hf hv=>by
 rw[show x=_ from hf]
 exact⟨.of (keeps_K (jC h.fn) _ z.In),g9 (h.run A W s _ _ .pos z (.mk rfl hv))⟩
theorem Kx {c:Cx}{n:Nat}{hp hp':List O}{args:List V}{f v:V}(h:uW c n hp f args v hp'):xN c n hp (.val f) args v hp':=fun A W s x vals z hf hv=>hf.elim fun u q=>by
 rw[q.1]
 exact h A W s u vals z q.2 hv
noncomputable def eI:List V→Option (List Nm)
 | []=>some []
 |v::r=>v.strE.bind fun x=>(eI r).map (x::·)
theorem xO {P:Params}{W:Wd}:∀ {xs:List V} {ss:List Nm} {us:List Value},VRs P W xs us→eI xs=some ss→∃ l:List (Str×Tok),us=strValues l∧l.map (·.1)=ss.map st
 | [],_,_,h,e=>by obtain rfl:_=[]:=h;cases e;exact⟨[],rfl,rfl⟩
 |_::_,_,_,.mk a r,e=>(aJ e).elim fun x y=>(aS y.2).elim fun ss q=>(xO r q.1).elim fun l w=>(eU y.1 a).elim fun t ht=>⟨(st x,t)::l,by rw[ht,w.1];rfl,q.2▸congrArg (st x::·) w.2⟩
noncomputable def BS (s y:Nm)(a b:Int):Int:=(occurrences (st s) (st y) (fromIndex (st s).length a) (min (fromIndex (st s).length b) (st s).length) ((st s).length+1)).length
noncomputable def oC (s y:Nm)(a b:Int):Int:=match lastOccurrence (st s) (st y) (fromIndex (st s).length a) (min (fromIndex (st s).length b) (st s).length)with
 |some k=>(k:Int)
 |none=> -1
theorem qJ (x y:Nm)(i j:Int)(t u v z:Tok):Gives (Builtin.«str.count» ⟨[.str (st x) t,.str (st y) u,.int i v,.int j z],[]⟩) (.int (BS x y i j)):=.of_eq rfl
theorem qK (x y:Nm)(i j:Int)(t u v z:Tok):Gives (Builtin.«str.rfind» ⟨[.str (st x) t,.str (st y) u,.int i v,.int j z],[]⟩) (.int (oC x y i j)):=by
 show Gives (match lastOccurrence (st x) (st y) (fromIndex (st x).length i) (min (fromIndex (st x).length j) (st x).length)with|some k=>retInt k|none=>(do rule "str.rfind.not-found";retInt (-1))) _
 unfold oC
 cases lastOccurrence (st x) (st y) (fromIndex (st x).length i) (min (fromIndex (st x).length j) (st x).length)with
 |none=>exact .rule (.of_eq rfl)
 |some k=>exact .of_eq rfl
noncomputable def Jb:List V→Option (Int×Int)
 | [a,b]=>a.intE.bind fun a=>b.intE.map fun b=>(a,b)
 |_=>none
theorem BU {P:Params}{W:Wd}{args:List V}{p:Int×Int}{us:List Value}(e:Jb args=some p)(h:VRs P W args us):∃ u v,us=[.int p.1 u,.int p.2 v]:=by
 cases args with
 |nil=>cases e
 |cons a r=>cases r with
  |nil=>cases e
  |cons b r=>cases r with
   |cons=>cases e
   |nil=>exact(aJ e).elim fun a q=>(aS q.2).elim fun b w=>(eV h).elim fun u r=>r.elim fun v r=>(dA q.1 r.2.1).elim fun t e2=>(dA w.1 r.2.2).elim fun t2 e3=>⟨t,t2,by rw[r.1,e2,e3,← w.2]⟩
noncomputable def BV:List V→Option (Nm×Int×Int)
 | []=>none
 |x::r=>x.strE.bind fun x=>(Jb r).map fun p=>(x,p)
theorem sI {P:Params}{W:Wd}{args:List V}{p:Nm×Int×Int}{us:List Value}(e:BV args=some p)(h:VRs P W args us):∃ t u v,us=[.str (st p.1) t,.int p.2.1 u,.int p.2.2 v]:=by
 cases args with
 |nil=>cases e
 |cons x r=>exact(aJ e).elim fun x y=>(aS y.2).elim fun q w=>(by rcases(h:Two (VR P W _) (R2 (VR P W) r) us)with⟨h1,r⟩;exact(eU y.1 h1).elim fun t e1=>(BU w.1 r).elim fun u z=>z.elim fun v z=>⟨t,u,v,by rw[e1,z,← w.2]⟩)
theorem qL {v:V}{xs:List V}{ss:List Nm}(e:items v hp=some xs)(e2:eI xs=some ss)(g:Nat.ble ss.flatten.length lim=true):xN c n hp (.str [] .join) [v] (.dat (.str ss.flatten)) hp:=fun _ _ _ _ _ z ⟨t,h⟩ hv=>(bU hv).elim fun u q=>by
 rw[h,q.1]
 exact⟨.blt _,match u,aT z.rel q.2 e with
  |_,.mk a us k I d=>by
   obtain⟨l,rfl,hl⟩:=xO d e2
   exact SC.join ⟨_,I,rfl,k,rfl⟩ hl (zW ss (Nat.le_of_ble_eq_true g)) fun t' k=>by rw[show Txt.join (st []) (ss.map st)=st ss.flatten from congrArg Str.mk (congrArg List.toArray (BK ss))];exact jB z⟩
noncomputable def Oz (c:Cx)(n:Nat)(hp:List O)(x:Nm)(args:List V):(b:Bm)→Option (Rs V (xN c n hp (.str x b) args))
 |.join=>match x,args with
  | [],[v]=>tk (items v hp) fun xs e=>tk (eI xs) fun ss e2=>some ⟨.dat (.str ss.flatten),hp,Nat.ble ss.flatten.length lim,fun g=>qL e e2 g⟩
  |_,_=>none
 |.count=>tk (BV args) fun p e=>some ⟨.dat (.int (BS x p.1 p.2.1 p.2.2)),hp,true,fun _ _ _ _ _ _ z ⟨t,h⟩ hv=>(sI e hv).elim fun _ q=>q.elim fun _ q=>q.elim fun _ q=>by
   rw[h,q]
   exact⟨.blt _,call_gives F.slot_str_count (typeIs_str _ _ _) F.entry_str_count (F.args_str_count_4 _ _ _ _) (qJ x p.1 p.2.1 p.2.2 _ _ _ _) (d8 z)⟩⟩
 |.rfind=>tk (BV args) fun p e=>some ⟨.dat (.int (oC x p.1 p.2.1 p.2.2)),hp,true,fun _ _ _ _ _ _ z ⟨t,h⟩ hv=>(sI e hv).elim fun _ q=>q.elim fun _ q=>q.elim fun _ q=>by
   rw[h,q]
   exact⟨.blt _,call_gives F.slot_str_rfind (typeIs_str _ _ _) F.entry_str_rfind (F.args_str_rfind_4 _ _ _ _) (qK x p.1 p.2.1 p.2.2 _ _ _ _) (d8 z)⟩⟩
 |.starts=>match args with
  | [v]=>tk v.strE fun y e=>some ⟨.dat (.boo (Ox y x)),hp,true,fun _ _ _ _ _ _ z ⟨t,h⟩ hv=>(bU hv).elim fun u q=>(eU e q.2).elim fun t' w=>by
   rw[h,q.1,w]
   exact⟨.blt _,SC.startswith (by rw[Ks];exact .here z rfl)⟩⟩
  |_=>none
 |_=>none
theorem mO {α:Type}:∀ (xs:List α),xs.eraseIdx (xs.length-1)=xs.take (xs.length-1)
 | []=>rfl
 | [_]=>rfl
 |x::y::r=>congrArg (x::·) (mO (y::r))
set_option tactic.hygienic true in
theorem GV {l:Nat}{xs:List V}{x:V}(e:hp[l]?.bind O.lstE=some xs)(ex:xs[xs.length-1]? =some x)(g:Nat.ble xs.length lim=true):xN c n hp (.lst l .pop) [] x (hp.set l (.lst (xs.take (xs.length-1)))):=fun _ _ _ _ vals z ⟨_,h⟩ hv=>by
 rw[h,show vals=[]from hv]
 exact⟨.blt _,match z.rel.lst (c8 e)with
  |.mk us k I d=>(R2.at d ex).elim fun y q=>by
   have sz:us.toArray.size=xs.length:=List.size_toArray.trans (R2.len d)
   refine call_meets F.slot_list_pop ⟨_,I,rfl⟩ F.entry_list_pop (F.args_list_pop_1 _) (MeetsSeq.list_pop_last _ us.toArray k y (by rw[sz,List.getElem?_toArray];exact q.1) (by rw[sz];exact bH g)) ⟨I,fH z (c8 e) I (R2.take (xs.length-1) d) ?_ q.2⟩
   rw[sz,← R2.len d,← mO,Array.eraseIdxIfInBounds]
   split
   ·simp
   ·rename_i q
    rw[List.size_toArray]at q
    cases us with
    |nil=>rfl
    |cons=>exact absurd (Nat.lt_of_lt_of_le (Nat.sub_lt (Nat.succ_pos _) Nat.one_pos) (Nat.le_refl _)) q⟩
noncomputable def PA (c:Cx)(n:Nat)(hp:List O)(l:Nat)(args:List V)(xs:List V)(e:hp[l]?.bind O.lstE=some xs):(b:Bm)→Option (Rs V (xN c n hp (.lst l b) args))
 |.append=>match args with
  | [x]=>some ⟨.dat .non,hp.set l (.lst (xs++[x])),Nat.ble xs.length lim,fun g _ _ _ _ _ z ⟨_,h⟩ hv=>(bU hv).elim fun u q=>by
   rw[h,q.1]
   exact⟨.blt _,match z.rel.lst (c8 e)with
    |.mk us k I d=>call_meets F.slot_list_append ⟨_,I,rfl⟩ F.entry_list_append (F.args_list_append_2 _ _) (list_append _ us.toArray k u (by rw[List.size_toArray,R2.len d];exact bH g)) ⟨I,fH z (c8 e) I (R2.app d (R2.one q.2)) (List.push_toArray ..) rfl⟩⟩⟩
  |_=>none
 |.pop=>match args,xs,e with
  | [],xs,e=>tk (xs[xs.length-1]?) fun x ex=>some ⟨x,hp.set l (.lst (xs.take (xs.length-1))),Nat.ble xs.length lim,fun g=>GV e ex g⟩
  | [i],x::r,e=>tk i.intE fun k e2=>Ja (kC k 0) (fun e3=>some ⟨x,hp.set l (.lst r),Nat.ble (r.length+1) lim,fun g _ _ _ _ _ z ⟨_,h⟩ hv=>(bU hv).elim fun u q=>(dA e2 q.2).elim fun t w=>by
   obtain rfl:k=0:=eq_of_beq ((bE k 0).trans e3)
   rw[h,q.1,w]
   exact⟨.blt _,match z.rel.lst (c8 e)with
    |.mk us k I d=>match us,(d:Two (VR c.P _ x) (R2 (VR c.P _) r) us),I with
     |_,.mk (a:=y) (l:=us) hy d,I=>call_meets F.slot_list_pop ⟨_,I,rfl⟩ F.entry_list_pop (F.args_list_pop_2 _ _) (MeetsSeq.list_pop_at _ (y::us).toArray k 0 t 0 y (by decide) (kN (k:=0) (n:=us.length+1) rfl).1 rfl (by rw[List.size_toArray,List.length_cons,R2.len d];exact bH g)) ⟨I,fH z (c8 e) I d (by simp) hy⟩⟩⟩) none
  |_,_,_=>none
 |_=>none
theorem xP {A:Around}{W:Wd}{s:Shared}{α β:Type}{l:Nat}{xs ys:List D}{us vs:List Value}{k t:Nat}{f:Array Value→Array Value}{RR:RT β α}{b:β}{r:α}(z:At c n A W hp s)(lv:Lv hp l (.dls xs))(g:s.heap.get? (W.ρ l)=some ⟨.type "list",none,.seq us.toArray k,#[]⟩)
  (d:DRs c.P W.fz ys vs)(hf:f us.toArray=vs.toArray)(x:RR W b r):Post c RR W hp s b (hp.set l (.dls ys)) r {s with heap:=s.heap.update (W.ρ l) (Obj.mapSeq f),toks:=t}:=
 have y:=z.rel.update (l:=l) (o':=.dls ys) (f:=Obj.mapSeq f) lv g (by simp only[Obj.mapSeq,hf];exact .mk vs _ d)
 .mk W y.1 (.of y.2) x
noncomputable def UH:(v:V)→Option ((d:D)×PLift (v=.dat d))
 |.dat d=>some ⟨d,⟨rfl⟩⟩
 |_=>none
noncomputable def PB (c:Cx)(n:Nat)(hp:List O)(l:Nat)(args:List V)(xs:List D)(e:hp[l]?.bind O.dlE=some xs):(b:Bm)→Option (Rs V (xN c n hp (.lst l b) args))
 |.append=>match args with
  | [x]=>tk (UH x) fun y _=>some ⟨.dat .non,hp.set l (.dls (xs++[y.1])),Nat.ble xs.length lim,fun g _ _ _ _ _ z ⟨_,h⟩ hv=>(bU hv).elim fun u q=>by
   rw[h,q.1]
   exact⟨.blt _,match z.rel.dls (mH e)with
    |.mk us k I d=>have d2:=DRs.r2.mp d;call_meets F.slot_list_append ⟨_,I,rfl⟩ F.entry_list_append (F.args_list_append_2 _ _) (list_append _ us.toArray k u (by rw[List.size_toArray,R2.len d2];exact bH g)) ⟨I,xP z (mH e) I (DRs.r2.mpr (R2.app d2 (R2.one (y.2.down▸q.2:VR c.P _ (.dat y.1) u)))) (List.push_toArray ..) rfl⟩⟩⟩
  |_=>none
 |.pop=>match args,xs,e with
  | [i],x::r,e=>tk i.intE fun k e2=>Ja (kC k 0) (fun e3=>some ⟨.dat x,hp.set l (.dls r),Nat.ble (r.length+1) lim,fun g _ _ _ _ _ z ⟨_,h⟩ hv=>(bU hv).elim fun u q=>(dA e2 q.2).elim fun t w=>by
   obtain rfl:k=0:=eq_of_beq ((bE k 0).trans e3)
   rw[h,q.1,w]
   exact⟨.blt _,match z.rel.dls (mH e)with
    |.mk us k I d=>match us,(d:Two (DR c.P _ x) (DRs c.P _ r) us),I with
     |_,.mk (a:=y) (l:=us) hy d,I=>call_meets F.slot_list_pop ⟨_,I,rfl⟩ F.entry_list_pop (F.args_list_pop_2 _ _) (MeetsSeq.list_pop_at _ (y::us).toArray k 0 t 0 y (by decide) (kN (k:=0) (n:=us.length+1) rfl).1 rfl (by rw[List.size_toArray,List.length_cons,R2.len (DRs.r2.mp d)];exact bH g)) ⟨I,xP z (mH e) I d (by simp) hy⟩⟩⟩) none
  |_,_,_=>none
 |_=>none
noncomputable def Wo (c:Cx)(n:Nat)(hp:List O)(args:List V):(m:MC)→Option (Rs V (xN c n hp m args))
 |.str x b=>Oz c n hp x args b
 |.lst l b=>w6 (hp[l]?.bind O.lstE) (fun xs e=>PA c n hp l args xs e b) fun _=>tk (hp[l]?.bind O.dlE) fun xs e=>PB c n hp l args xs e b
 |_=>none
end
end
section
noncomputable abbrev Cx.VTs (c:Cx):RT (List V) (List Value):=VRs c.P
noncomputable abbrev RE (c:Cx)(sc:aG)(n:Nat)(F:Fx)(hp:List O)(r:Expr):V→List O→Prop:=Run c sc n F hp (fun env=>eval r env) c.VT
noncomputable abbrev RB (c:Cx)(sc:aG)(n:Nat)(F:Fx)(hp:List O)(r:Expr):Bool→List O→Prop:=Run c sc n F hp (fun env=>isTrue r env (eval r env)) Aw
noncomputable abbrev xQ (c:Cx)(sc:aG)(n:Nat)(F:Fx)(hp:List O)(rs:List Expr):List V→List O→Prop:=Run c sc n F hp (fun env=>spliced (rs.map fun r=>(false,eval r env))) c.VTs
section
variable {c:Cx}{n:Nat}{A:Around}{W W1:Wd}{hp hp1 hp2:List O}{s s1:Shared}{α β:Type}{RR:RT β α}{b:β}
theorem fin {m:Sem α}(L:Lat W hp s W1 hp1 s1)(h:c.wp A m (Post c RR W1 hp1 s1 b hp2) s1):c.wp A m (Post c RR W hp s b hp2) s1:=wpAny_mono h (fun _ _ p=>p.later L) fun _ _ f=>f
theorem Post.last {a:α}{t:Nat}(z:At c n A W1 hp1 s1)(L:Lat W hp s W1 hp1 s1)(x:RR W1 b a):Post c RR W hp s b hp1 a {s1 with toks:=t}:=.mk W1 z.rel ⟨L.e,L.g,L.o⟩ x
end
noncomputable def bJ:Expr→Bool
 |.Starred .. =>false
 |_=>true
theorem PC {r:Expr}(rs:List Expr)(env:Env)(h:bJ r=true):starEach (r::rs) env=(false,eval r env)::starEach rs env:=by
 cases r with
 |Starred=>cases h
 |_=>rfl
theorem bV (pos:Pos)(env:Env):∀ {rs:List Expr},rs.all bJ=true→backTo pos (starEach rs env)=rs.map fun r=>(false,eval r env)
 | [],_=>rfl
 |r::rs,h=>by
  have h:=Bool.and_eq_true_iff.mp h
  rw[PC rs env h.1]
  exact congrArg (List.cons (false,_)) (bV pos env h.2)
section
variable {M:Model}{A:Around}{s:Shared}{E:Value→Shared→Prop}{env:Env}
theorem GW {f:Value}{rs:List Expr}{Q:Args→Shared→Prop}(h:wpAny M A (spliced (rs.map fun r=>(false,eval r env))) (fun vs=>Q ⟨vs,[]⟩) E s):wpAny M A (evalArgs f true (rs.map fun r=>(false,eval r env)) []) Q E s:=by
 cases rs with
 |nil=>exact bK (wpAny_mono h (fun vs s' h'=>wpAny_holding (bK (wpAny_pure (bK (wpAny_pure (wpAny_pure h')))))) fun _ _ x=>x)
 |cons r rs=>exact evalArgs_plain h
theorem sJ {pos:Pos}{f:Value}{first:List Value}{rs:List Expr}{Q:Value→Shared→Prop}
  (h:wpAny M A (spliced (rs.map fun r=>(false,eval r env))) (fun vs s₁=>Keep M s₁.heap f∧wpAny M A (call f (first++vs)) Q E s₁) E s):wpAny M A (callWith pos f first (rs.map fun r=>(false,eval r env)) []) Q E s:=
 callWith_of (P:=fun h=>Keep M h f) (by simp) (fun _ k=>(by rcases k with⟨k,o,l⟩;exact⟨k,o,l⟩)) (GW h)
end
section
variable {c:Cx}{sc:aG}{n:Nat}{F:Fx}{hp hp1 hp2 hp3 hp4:List O}{p ap:Pos}{r g l x:Expr}{rs:List Expr}{u v w y:V}{us:List V}{k:Nat}
theorem GX:RE c sc n F hp (.Constant .none k p) (.dat .non) hp:=fun _ _ _ _ z=>wpAny_Constant_none (.here z.a rfl)
theorem GZ {b:Bool}:RE c sc n F hp (.Constant (.bool b) k p) (.dat (.boo b)) hp:=fun _ _ _ _ z=>wpAny_Constant_bool (.here z.a rfl)
theorem Ga {i:Int}:RE c sc n F hp (.Constant (.int i) k p) (.dat (.int i)) hp:=fun _ _ _ _ z=>wpAny_Constant_int (d8 z.a)
theorem Gb {t:Str}:RE c sc n F hp (.Constant (.str t) k p) (.dat (.str t.cps.toList)) hp:=fun _ _ _ _ z=>wpAny_Constant_str (Kk z.a)
theorem Gd {q:Str}(hk:sc.lookup q=some .local)(hd:(q==("__debug__" :Str))=false)(e:zQ F q.cps.toList hp=some v):RE c sc n F hp (.Name q p) v hp:=fun _ _ _ _ z=>
 wpAny_Name (by have:=JW (x:=q.cps.toList) z (by rw[aH];unfold Env.kindOf;rw[z.sc];exact hk) e;rwa [aH]at this) hd
theorem xR {q:Str}(hk:sc.lookup q=some .cell∨(sc.lookup q=some .free∧(q==("__classdict__" :Str))=false))(hd:(q==("__debug__" :Str))=false)(e:Fq F q.cps.toList hp=some v):RE c sc n F hp (.Name q p) v hp:=fun _ _ _ _ z=>
 wpAny_Name (by have:=Oi (x:=q.cps.toList) z (by rw[aH];unfold Env.kindOf;rw[z.sc];exact hk) e;rwa [aH]at this) hd
theorem Ge {q:Str}(hk:sc.lookup q=some .globalImplicit)(hd:(q==("__debug__" :Str))=false)(e:Fu c.G q.cps.toList=some v):RE c sc n F hp (.Name q p) v hp:=fun _ _ _ _ z=>
 wpAny_Name (by have:=Oj (x:=q.cps.toList) z (by rw[aH];unfold Env.kindOf;rw[z.sc];exact hk) e;rwa [aH]at this) hd
theorem Gf {a:Str}(hb:∀ env wh,attributeBase r a env wh=wh)(h1:RE c sc n F hp r u hp1)(h2:∀ e,Ax c n hp1 (fun u=>getAttr u (st a.cps.toList) e) c.VT u v hp2):RE c sc n F hp (.Attribute r a p) v hp2:=fun A W s env z=>by
 rw[aH]at h2
 show wpAny _ _ (eval _ env) _ _ _
 rw[arm_eval_Attribute,hb]
 exact bK (h1.go z fun W1 u1 s1 z1 L1 x1=>bK (wpAny_standAt (bK (wpAny_holding (wpAny_mono (h2 _ A W1 s1 u1 z1.a x1) (fun _ _ q=>bK (wpAny_letTemporaryGo (wpAny_pure (q.later L1)))) fun _ _ f=>f)))))
theorem jD:xQ c sc n F hp [] [] hp:=fun _ _ _ _ z=>spliced_nil (.here (b:=[]) z.a rfl)
theorem fJ (h1:RE c sc n F hp r u hp1)(h2:xQ c sc n F hp1 rs us hp2):xQ c sc n F hp (r::rs) (u::us) hp2:=fun A W s env z=>
 spliced_cons (h1.go z fun W1 u1 s1 z1 L1 x1=>h2.go z1 fun W2 us2 s2 z2 L2 x2=>.mk W2 z2.a.rel (L1.trans L2) (.mk (x1.mono L2.le) x2))
theorem xS (hn:rs.all bJ=true)(ha:eval (.Call g rs [] p)=fun env=>(do callWith p (← eval g env) [] (backTo p (starEach rs env)) (backToKw p (keywordEach [] env))))(h1:RE c sc n F hp g u hp1)(h2:xQ c sc n F hp1 rs us hp2)(h3:uW c n hp2 u us v hp3):
  RE c sc n F hp (.Call g rs [] p) v hp3:=fun A W s env z=>by
 show wpAny _ _ (eval (.Call g rs [] p) env) _ _ _
 rw[ha]
 refine wpAny_bind (h1.go z fun W1 u1 s1 z1 L1 x1=>?_)
 rw[bV p env hn]
 exact sJ (h2.go z1 fun W2 us2 s2 z2 L2 x2=>have q:=h3 A W2 s2 u1 us2 z2.a (x1.mono L2.le) x2;⟨q.1,fin (L1.trans L2) q.2⟩)
theorem Gg {a:Str}{m:MC}(hn:rs.all bJ=true)(hl:rs.length<30)(hp':(ap.endLine==p.line)=true)(hb:∀ env wh,attributeBase r a env wh=wh)(h1:RE c sc n F hp r u hp1)(h2:GT c n hp1 u a.cps.toList m hp2)(h3:xQ c sc n F hp2 rs us hp3)(h4:xN c n hp3 m us v hp4):
  RE c sc n F hp (.Call (.Attribute r a ap) rs [] p) v hp4:=fun A W s env z=>by
 show wpAny _ _ (eval _ env) _ _ _
 rw[arm_eval_Call,hb]
 refine wpAny_bind (h1.go z fun W1 u1 s1 z1 L1 x1=>wpAny_bind (wpAny_standAt ?_))
 rw[bV p env hn]
 have few:methodCallForm (rs.length+([]:List Keyword).length) (rs.map fun r=>(false,eval r env)) (backToKw p (keywordEach [] env))=true:=by
  unfold methodCallForm
  exact Bool.and_eq_true_iff.mpr ⟨Bool.and_eq_true_iff.mpr ⟨by simp,rfl⟩,decide_eq_true hl⟩
 unfold methodCall
 rw[few]
 unfold calleeOf
 rw[if_pos rfl,← aH a]
 refine wpAny_bind (wpAny_holding (go z1.a (h2 _ A W1 s1 u1 z1.a x1) fun W2 fx s2 a2 L2 x2=>?_))
 have hpos:methodCallPos true r env ap p=pure p:=by
  unfold methodCallPos
  simp[hp']
 obtain⟨f,first⟩:=fx
 dsimp only
 rw[hpos]
 exact wpAny_bind (wpAny_pure (sJ (h3.go (z1.next L2 a2) fun W3 us3 s3 z3 L3 x3=>have q:=h4 A W3 s3 (f,first) us3 z3.a (McR.mono L3.le x2) x3;⟨q.1,fin ((L1.trans L2).trans L3) q.2⟩)))
noncomputable def gL:Expr→Bool
 |.Slice .. =>false
 |_=>true
noncomputable def jE (v:V)(hp:List O):Bool:=match v with
 |.dat (.str _)=>true
 |.dat (.dct _)=>true
 |v=>(items v hp).isSome||(dN v hp).isSome||(match v with|.ref l=>(hp[l]?.bind O.nsE).isSome|_=>false)
noncomputable abbrev BW (s:Shared)(u:Value):Prop:=∃ T id,s.TypeIs u T∧typeLookup (.type T) "__getitem__" =pure (some (.builtin id))
section
variable {A:Around}{W:Wd}{s:Shared}{v:V}{u:Value}
theorem PD {xs:List V}(z:At c n A W hp s)(h:VR c.P W v u)(q:items v hp=some xs):BW s u:=by
 rcases aT z.rel h q with⟨a,us,k,I,d⟩
 exact⟨"list",_,⟨_,I,rfl⟩,slot_list_getitem.lookup⟩
theorem PE {xs:List V}(z:At c n A W hp s)(h:VR c.P W v u)(q:dN v hp=some xs):BW s u:=by
 rcases dO z.rel h q with⟨a,us,k,I,d⟩
 exact⟨"tuple",_,⟨_,I,rfl⟩,F.slot_tuple_getitem.lookup⟩
noncomputable def WG (v:V)(hp:List O):Bool:=match v with
 |.ref l=>(hp[l]?.bind O.nsE).isSome
 |_=>false
theorem PF (z:At c n A W hp s)(h:VR c.P W v u)(e:WG v hp=true):BW s u:=by
 cases v with
 |ref l=>
  obtain⟨es,q⟩:=Option.isSome_iff_exists.mp e
  rcases z.rel.ns (gH q)with⟨en,k,g,E,_⟩
  exact⟨"dict",_,(show u=.ref (W.ρ l)from h.2) ▸ ⟨_,g,rfl⟩,slot_dict_getitem.lookup⟩
 |_=>cases e
theorem Jc (z:At c n A W hp s)(h:VR c.P W v u)(e:((items v hp).isSome||(dN v hp).isSome||WG v hp)=true):BW s u:=
 (Bool.or_eq_true_iff.mp e).elim (fun e=>(Bool.or_eq_true_iff.mp e).elim (fun e=>(Option.isSome_iff_exists.mp e).elim fun _=>PD z h) fun e=>(Option.isSome_iff_exists.mp e).elim fun _=>PE z h) (PF z h)
theorem BX (z:At c n A W hp s)(h:VR c.P W v u)(e:jE v hp=true):BW s u:=by
 cases v with
 |dat d=>cases d with
  |str x=>cases(h:IsS x u);exact⟨"str",_,typeIs_str s _ _,F.slot_str_getitem.lookup⟩
  |dct es=>rcases(h:IsDct W.fz (DRe c.P W.fz es) u)with⟨a,en,k,f,_⟩;exact⟨"dict",_,⟨_,z.rel.fz _ _ f,rfl⟩,slot_dict_getitem.lookup⟩
  |_=>exact Jc z h e
 |_=>exact Jc z h e
end
theorem Gh (hn:gL x=true)(h1:RE c sc n F hp r u hp1)(h2:RE c sc n F hp1 x w hp2)(h:jE u hp2=true)(h3:cG c n hp2 getItem c.VT u w v hp3):RE c sc n F hp (.Subscript r x p) v hp3:=fun A W s env z=>
 Subscript_ (h1.go z fun W1 u1 s1 z1 L1 x1=>h2.go z1 fun W2 u2 s2 z2 L2 x2=>(BX z2.a (x1.mono L2.le) h).elim fun T q=>q.elim fun id q=>fin (L1.trans L2) (tail_any (ops:=[u1,u2]) q.1 q.2 (h3 A W2 s2 u1 u2 z2.a (x1.mono L2.le) x2) (by cases x with
  |Slice=>exact nomatch hn
  |_=>rfl)))
end
end
section
open PySem.Builtin.Str (strSliceIndices)
noncomputable def mn (k n:Nat):Nat:=match Nat.ble k n with
 |true=>k
 |false=>n
noncomputable def xT (n d:Nat):Option Int→Nat
 |none=>d
 |some (.ofNat k)=>mn k n
 |some (.negSucc k)=>n - (k+1)
noncomputable def eR {α:Type}(xs:List α)(lo hi:Option Int):List α:=(xs.drop (xT xs.length 0 lo)).take (xT xs.length xs.length hi-xT xs.length 0 lo)
theorem lF (k n:Nat):mn k n=min k n:=by
 unfold mn
 cases h:Nat.ble k n with
 |true=>exact(Nat.min_eq_left (Nat.le_of_ble_eq_true h)).symm
 |false=>exact(Nat.min_eq_right (Nat.le_of_not_le fun q=>Bool.false_ne_true (h.symm.trans (Nat.ble_eq_true_of_le q)))).symm
theorem Ky (n k:Nat):max 0 ((n:Int) - (k:Nat))=((n-k:Nat):Int):=by
 rcases Nat.le_total k n with h|h
 ·rw[Int.ofNat_sub h]
  exact Int.max_eq_right (Int.sub_nonneg_of_le (Int.ofNat_le.mpr h))
 ·rw[Nat.sub_eq_zero_of_le h]
  exact Int.max_eq_left (Int.sub_nonpos_of_le (Int.ofNat_le.mpr h))
theorem xU (n:Nat)(i:Int):max 0 (min (if i<0 then i+n else i) (n:Int))=(xT n 0 (some i):Int):=by
 cases i with
 |ofNat k=>
  rw[if_neg (Int.not_lt.mpr (Int.natCast_nonneg k):¬ Int.ofNat k<0),show xT n 0 (some (.ofNat k))=min k n from lF k n]
  show max 0 (min (k:Int) n)=_
  rcases Nat.le_total k n with h|h
  ·rw[Nat.min_eq_left h,Int.min_eq_left (Int.ofNat_le.mpr h)];exact Int.max_eq_right (Int.natCast_nonneg k)
  ·rw[Nat.min_eq_right h,Int.min_eq_right (Int.ofNat_le.mpr h)];exact Int.max_eq_right (Int.natCast_nonneg n)
 |negSucc k=>
  rw[if_pos (Int.negSucc_lt_zero k),show xT n 0 (some (.negSucc k))=n - (k+1)from rfl,← Ky,Int.min_eq_left (Int.add_le_of_le_sub_right (by rw[Int.sub_self];exact Int.le_of_lt (Int.negSucc_lt_zero k))),Int.add_comm];rfl
theorem PG (n d:Nat)(h:d≤n)(k:Option Int):xT n d k≤n:=by
 cases k with
 |none=>exact h
 |some i=>cases i with
  |ofNat k=>exact Nat.le_trans (Nat.le_of_eq (lF k n)) (Nat.min_le_right k n)
  |negSucc k=>exact Nat.sub_le _ _
theorem BY (lo hi:Option Int)(n:Nat):strSliceIndices lo hi 1 n=(List.range (xT n n hi-xT n 0 lo)).map (xT n 0 lo+·):=by
 rw[← sliceRange_one]
 unfold strSliceIndices
 simp only[show(1:Int)>0 by decide,if_true]
 congr 1
 ·cases lo with
  |none=>rfl
  |some i=>exact xU n i
 ·cases hi with
  |none=>rfl
  |some i=>exact(xU n i).trans (by cases i <;>rfl)
theorem sK {α:Type}(xs:List α)(lo hi:Option Int):(strSliceIndices lo hi 1 xs.length).filterMap (xs[·]?)=eR xs lo hi:=by
 rw[BY]
 have:=pick_run xs.toArray (xT xs.length 0 lo) (xT xs.length xs.length hi-xT xs.length 0 lo)
 unfold eR
 simpa using this
theorem Gj {α:Type}(xs:List α)(lo hi:Option Int):(eR xs lo hi).length≤xs.length:=Nat.le_trans (List.length_take_le' ..) (List.length_drop▸Nat.sub_le _ _)
theorem BZ {α:Type}(xs:List α)(lo hi:Option Int)(h:(strSliceIndices lo hi 1 xs.length).length=xs.length):eR xs lo hi=xs:=by
 unfold eR
 rw[BY,List.length_map,List.length_range]at h
 have h1:=PG xs.length xs.length (Nat.le_refl _) hi
 cases xs with
 |nil=>rw[List.drop_nil,List.take_nil]
 |cons x r=>
  have a0:xT (x::r).length 0 lo=0:=by rw[List.length_cons]at *;omega
  rw[h,a0];exact List.take_length
noncomputable def UI:V→Option (Option Int)
 |.dat .non=>some none
 |.dat (.int k)=>some (some k)
 |_=>none
theorem jH {P:Params}{W:Wd}{v:V}{u:Value}{k:Option Int}(hv:VR P W v u)(e:UI v=some k):IsPart u k∧∃ p:Option (Int×Tok),u=partValue p∧p.map (·.1)=k:=by
 cases v with
 |dat d=>cases d with
  |non=>rw[show u=.none from hv,← Option.some.inj e];exact⟨.none,none,rfl,rfl⟩
  |int i=>exact match u,(hv:IsI i u)with|_,.mk t=>Option.some.inj e ▸ ⟨.int _ _,some (i,t),rfl,rfl⟩
  |_=>cases e
 |_=>cases e
noncomputable def WH (c:Cx)(n:Nat)(hp:List O)(o lo hi v:V)(hp':List O):Prop:=
 ∀ A W s u vl vh sl,At c n A W hp s→VR c.P W o u→VR c.P W lo vl→VR c.P W hi vh→s.heap.IsSliceOf sl vl vh .none→c.wp A (getItem u (.ref sl)) (Post c c.VT W hp s v hp') s
set_option tactic.hygienic true in
noncomputable def UJ (c:Cx)(n:Nat)(hp:List O)(o lo hi:V):Option (Rs V (WH c n hp o lo hi)):=tk (UI lo) fun a ea=>tk (UI hi) fun b eb=>w6 o.strE
 (fun x e=>some ⟨.dat (.str (eR x a b)),hp,Nat.ble x.length lim,fun g A W s u vl vh sl z ho h1 h2 hs=>by
  obtain⟨_,qa,rfl,ra⟩:=jH h1 ea
  obtain⟨_,qb,rfl,rb⟩:=jH h2 eb
  obtain⟨t,rfl⟩:=eU e ho
  refine wpAny_getItem_str_slice (l:=qa) (u:=qb) (st:=none) hs rfl ?_
  have e1:slicePicked (st x) qa qb none=strSliceIndices a b 1 x.length:=by unfold slicePicked;rw[ra,rb,kM];rfl
  have e2:(⟨((slicePicked (st x) qa qb none).filterMap ((st x).cps[·]?)).toArray⟩:Str)=st (eR x a b):=by
   rw[e1,← sK]
   exact congrArg (fun f:Nat→Option Nat=>(⟨((strSliceIndices a b 1 x.length).filterMap f).toArray⟩:Str)) (funext fun i=>List.getElem?_toArray ..)
  unfold sliceMade
  split
  ·rename_i q
   have q:=eq_of_beq (Bool.and_eq_true_iff.mp q).2
   rw[e1,kM]at q
   rw[BZ x a b q]
   exact jB (k:=s.toks) z
  ·rw[e2]
   exact⟨Nat.le_trans (Gj _ _ _) (bH g),jB z⟩⟩)
 fun _=>tk (items o hp) fun xs e=>some ⟨.ref hp.length,hp++[.lst (eR xs a b)],Nat.ble xs.length lim,fun g A W s u vl vh sl z ho h1 h2 hs=>match u,aT z.rel ho e with
  |_,.mk l us k I d=>by
   refine wpAny_getItem_list_slice ⟨_,I,rfl,k,rfl⟩ hs (jH h1 ea).1 (jH h2 eb).1 .none nofun ?_ (by rw[List.size_toArray,R2.len d];exact bH g)
   have e1:slicePick us.toArray a b none=(eR us a b).toArray:=by
    rw[← sK]
    unfold slicePick
    simp
    rfl
   rw[e1]
   have d2:VRs c.P W (eR xs a b) (eR us a b):=by
    unfold eR
    rw[R2.len d]
    exact R2.take _ (R2.drop _ d)
   exact mM z d2⟩
end
section
noncomputable abbrev RP (c:Cx)(sc:aG)(n:Nat)(F:Fx)(hp:List O)(r:Option Expr):V→List O→Prop:=Run c sc n F hp (fun env=>evalPart r env) c.VT
noncomputable abbrev RA (c:Cx)(sc:aG)(n:Nat)(F:Fx)(hp:List O)(op:BoolOp)(p:Pos)(rs:List Expr):V→List O→Prop:=Run c sc n F hp (fun env=>boolOp p op (evalEach rs env)) c.VT
noncomputable abbrev RL (c:Cx)(sc:aG)(n:Nat)(F:Fx)(hp:List O)(op:BoolOp)(rs:List Expr):Bool→List O→Prop:=Run c sc n F hp (fun env=>allTrue op rs env) Aw
section
variable {c:Cx}{W:Wd}{hp hp1:List O}{s s1:Shared}{b a:Bool}{u:Value}
theorem WI:Post c jA W hp s b hp1 u s1→Post c c.VT W hp s (.dat (.boo b)) hp1 u s1
 |.mk W' r l x=>.mk W' r l x
theorem Wp:Post c Aw W hp s b hp1 a s1→Post c c.VT W hp s (.dat (.boo !b)) hp1 (.bool !a) s1
 |.mk W' r l x=>.mk W' r l (congrArg (fun b=>Value.bool !b) (x:a=b))
theorem Wq:Post c Aw W hp s b hp1 a s1→Post c Aw W hp s (!b) hp1 (!a) s1
 |.mk W' r l x=>.mk W' r l (congrArg (!·) (x:a=b))
end
noncomputable def eW:BoolOp→Bool
 |.And=>false
 |.Or=>true
section
variable {c:Cx}{sc:aG}{n:Nat}{F:Fx}{hp hp1 hp2 hp3 hp4 hp5:List O}{p ap pos:Pos}{r g l x m:Expr}{rs:List Expr}{u v w y:V}{us:List V}{k:Nat}{b b':Bool}
theorem Kz:RP c sc n F hp none (.dat .non) hp:=fun _ _ _ _ z=>wpAny_pure (.here z.a rfl)
theorem LA (h:RE c sc n F hp r v hp1):RP c sc n F hp (some r) v hp1:=h
theorem Gk {ol oh:Option Expr}(h1:RE c sc n F hp r u hp1)(h2:RP c sc n F hp1 ol v hp2)(h3:RP c sc n F hp2 oh w hp3)(h:jE u hp3=true)(h4:WH c n hp3 u v w y hp4):RE c sc n F hp (.Subscript r (.Slice ol oh none ap) p) y hp4:=fun A W s env z=>
 Subscript_ (h1.go z fun W1 u1 s1 z1 L1 x1=>wpAny_Slice (h2.go z1 fun W2 u2 s2 z2 L2 x2=>h3.go z2 fun W3 u3 s3 z3 L3 x3=>wpAny_pure (by
  have q:=z3.a.rel.allocZ (ob:={cls:=.type "slice",data:=.fields #[u2,u3,.none]}) rfl
  have L:Lat W3 hp3 s3 _ hp3 {s3 with heap:=_}:=.of (t:=s3.toks) q.2
  have z4:At c n A _ hp3 {s3 with heap:=_}:=z3.a.next L q.1 (Nat.le_refl _)
  have x1':=((x1.mono L2.le).mono L3.le).mono L.le
  exact(BX z4 x1' h).elim fun T t=>t.elim fun id t=>fin (((L1.trans L2).trans L3).trans L) (tail_any (ops:=[.ref s3.heap.objs.size,u1]) t.1 t.2 (h4 A _ _ u1 u2 u3 _ z4 x1' ((x2.mono L3.le).mono L.le) (x3.mono L.le) ⟨_,Heap.get?_push_size _ rfl,rfl,rfl⟩) rfl))))
theorem Gl (h1:RE c sc n F hp r (.dat (.int k)) hp1):RE c sc n F hp (.UnaryOp .USub r p) (.dat (.int (-(k:Int)))) hp1:=fun A W s env z=>
 wpAny_UnaryOp (h1.go z fun W1 u1 s1 z1 L1 x1=>(by rcases(x1:IsI k u1)with⟨_⟩;exact fin L1 (PySem.P.neg_int (d8 z1.a))))
theorem Gm {op:Op}(h1:RE c sc n F hp l u hp1)(h2:RE c sc n F hp1 r v hp2)(h3:cG c n hp2 (binaryOp (fA op)) c.VT u v w hp3):RE c sc n F hp (.BinOp l (fA op) r p) w hp3:=fun A W s env z=>
 wpAny_BinOp (h1.go z fun W1 u1 s1 z1 L1 x1=>h2.go z1 fun W2 u2 s2 z2 L2 x2=>fin (L1.trans L2) (h3 A W2 s2 u1 u2 z2.a (x1.mono L2.le) x2))
theorem Gn (hn:rs.all bJ=true)(h:xQ c sc n F hp rs us hp1)(g:Nat.ble us.length lim=true):RE c sc n F hp (.List rs p) (.ref hp1.length) (hp1++[.lst us]):=fun A W s env z=>wpAny_List (by
 rw[bV p env hn]
 exact h.go z fun W1 u1 s1 z1 L1 x1=>⟨by rw[R2.len x1];exact bH g,(mM (t:=s1.toks) z1.a x1).later L1⟩)
noncomputable def uZ (xs:List V)(hp:List O):V×List O:=match p4 xs with
 |some ds=>(.dat (.tup ds),hp)
 |none=>(.ref hp.length,hp++[.tup xs])
theorem Go {A:Around}{W:Wd}{s:Shared}{xs:List V}{us:List Value}{t:Nat}(z:At c n A W hp s)(d:VRs c.P W xs us):Post c c.VT W hp s (uZ xs hp).1 (uZ xs hp).2 (.ref s.heap.objs.size) {s with heap:=s.heap.push {cls:=.type "tuple",data:=.seq us.toArray},toks:=t}:=by
 unfold uZ
 cases e:p4 xs with
 |some ds=>exact uX z rfl (.mk _ us 0 (if_pos rfl) (DRs.mono (Wd.le_freeze z.rel.new_cold).fz (lT d e)))
 |none=>
  have q:=z.rel.alloc (o:=.tup xs) (.mk us 0 (VRs.mono (Wd.le_push W _) d))
  exact .mk _ q.1 (.of q.2) ⟨z.rel.len▸Nat.lt_succ_self _,congrArg Value.ref (z.rel.push_at _).symm⟩
theorem Gp (hn:rs.all bJ=true)(h:xQ c sc n F hp rs us hp1)(g:Nat.ble us.length lim=true):RE c sc n F hp (.Tuple rs k p) (uZ us hp1).1 (uZ us hp1).2:=fun A W s env z=>wpAny_Tuple (by
 rw[bV p env hn]
 exact h.go z fun W1 u1 s1 z1 L1 x1=>⟨by rw[R2.len x1];exact bH g,(Go (t:=s1.toks) z1.a x1).later L1⟩)
theorem Gq {op:Cm}(hm:lastMarks [bR op] [x]=false)(h1:RE c sc n F hp r u hp1)(h2:RE c sc n F hp1 x v hp2)(h3:cG c n hp2 (compareOp (bR op)) jA u v b hp3):RE c sc n F hp (.Compare r [bR op] [x] p) (.dat (.boo b)) hp3:=fun A W s env z=>by
 show wpAny _ _ (eval _ env) _ _ _
 rw[arm_eval_Compare,markedEach_of_false _ _ _ hm]
 exact bK (h1.go z fun W1 u1 s1 z1 L1 x1=>bK (wpAny_holding (h2.go z1 fun W2 u2 s2 z2 L2 x2=>bK (wpAny_standAt (wpAny_operate' (wpAny_mono (h3 A W2 s2 u1 u2 z2.a (x1.mono L2.le) x2) (fun _ _ q=>(WI q).later (L1.trans L2)) fun _ _ f=>f))))))
theorem Gr {op:Cm}(hm:lastMarks [bR op] [x]=false)(h1:RE c sc n F hp r u hp1)(h2:RE c sc n F hp1 x v hp2)(h3:cG c n hp2 (compareOp (bR op)) jA u v b hp3):RB c sc n F hp (.Compare r [bR op] [x] p) b hp3:=fun A W s env z=>by
 show wpAny _ _ (PySem.isTrue _ env _) _ _ _
 rw[arm_isTrue_Compare,markedEach_of_false _ _ _ hm]
 exact bK (h1.go z fun W1 u1 s1 z1 L1 x1=>bK (wpAny_holding (h2.go z1 fun W2 u2 s2 z2 L2 x2=>bK (wpAny_standAt (bK (wpAny_operate' (go z2.a (h3 A W2 s2 u1 u2 z2.a (x1.mono L2.le) x2) fun W3 u3 s3 a3 L3 x3=>x3▸wpAny_holding (wpAny_pure (.last (t:=s3.toks) a3 ((L1.trans L2).trans L3) rfl)))))))))
theorem Gs {op op':Cm}(hm:lastMarks [bR op,bR op'] [m,x]=false)(h1:RE c sc n F hp r u hp1)(h2:RE c sc n F hp1 m v hp2)(h3:cG c n hp2 (compareOp (bR op)) jA u v b hp3)
  (h4:b=false→b'=false∧hp5=hp3)(h5:b=true→RE c sc n F hp3 x w hp4∧cG c n hp4 (compareOp (bR op')) jA v w b' hp5):RE c sc n F hp (.Compare r [bR op,bR op'] [m,x] p) (.dat (.boo b')) hp5:=fun A W s env z=>by
 refine Compare_chain (rs:=[]) (h1.go z fun W1 u1 s1 z1 L1 x1=>?_) hm
 refine bK (wpAny_holding (h2.go z1 fun W2 u2 s2 z2 L2 x2=>bK (wpAny_standAt (bK (wpAny_holding (go z2.a (h3 A W2 s2 u1 u2 z2.a (x1.mono L2.le) x2) fun W3 u3 s3 a3 L3 x3=>?_))))))
 have L:=(L1.trans L2).trans L3
 rw[x3]
 refine bK (wpAny_release (bK (wpAny_holding (wpAny_pure ?_))))
 cases b with
 |false=>rw[(h4 rfl).1,(h4 rfl).2];exact wpAny_pure (.last (t:=s3.toks) a3 L rfl)
 |true=>exact bK (wpAny_holding ((h5 rfl).1.go (z2.next L3 a3) fun W4 u4 s4 z4 L4 x4=>bK (wpAny_standAt (wpAny_operate' (wpAny_mono ((h5 rfl).2 A W4 s4 u2 u4 z4.a ((x2.mono L3.le).mono L4.le) x4) (fun _ _ q=>(WI q).later (L.trans L4)) fun _ _ f=>f)))))
theorem Gu {op op':Cm}(hm:lastMarks [bR op,bR op'] [m,x]=false)(h1:RE c sc n F hp r u hp1)(h2:RE c sc n F hp1 m v hp2)(h3:cG c n hp2 (compareOp (bR op)) jA u v b hp3)
  (h4:b=false→b'=false∧hp5=hp3)(h5:b=true→RE c sc n F hp3 x w hp4∧cG c n hp4 (compareOp (bR op')) jA v w b' hp5):RB c sc n F hp (.Compare r [bR op,bR op'] [m,x] p) b' hp5:=fun A W s env z=>by
 refine isTrue_chain (rs:=[]) (h1.go z fun W1 u1 s1 z1 L1 x1=>?_) hm
 refine bK (wpAny_holding (h2.go z1 fun W2 u2 s2 z2 L2 x2=>bK (wpAny_standAt (bK (wpAny_holding (go z2.a (h3 A W2 s2 u1 u2 z2.a (x1.mono L2.le) x2) fun W3 u3 s3 a3 L3 x3=>?_))))))
 have L:=(L1.trans L2).trans L3
 rw[x3]
 refine bK (wpAny_release (bK (wpAny_holding (wpAny_pure ?_))))
 cases b with
 |false=>rw[(h4 rfl).1,(h4 rfl).2];exact wpAny_pure (.last (t:=s3.toks) a3 L rfl)
 |true=>exact bK (wpAny_holding ((h5 rfl).1.go (z2.next L3 a3) fun W4 u4 s4 z4 L4 x4=>bK (wpAny_standAt (bK (wpAny_operate' (go z4.a ((h5 rfl).2 A W4 s4 u2 u4 z4.a ((x2.mono L3.le).mono L4.le) x4) fun W5 u5 s5 a5 L5 x5=>x5▸wpAny_holding (wpAny_pure (.last (t:=s5.toks) a5 ((L.trans L4).trans L5) rfl))))))))
theorem Gv (he:∀ env whole,PySem.isTrue r env whole=(do let v ← whole;standAt r.pos;holding [v] (truthy v)))(h1:RE c sc n F hp r u hp1)(h2:Ax c n hp1 truthy Aw u b hp2):RB c sc n F hp r b hp2:=fun A W s env z=>
 wpAny_isTrue_value (h1.go z fun W1 u1 s1 z1 L1 x1=>fin L1 (h2 A W1 s1 u1 z1.a x1)) (he env _)
theorem Gw:RB c sc n F hp (.Constant (.bool b) k p) b hp:=fun A W s env z=>wpAny_isTrue_value (wpAny_Constant_bool (wpAny_pure (.here z.a rfl)))
theorem Gx (h1:RE c sc n F hp r u hp1)(h2:Ax c n hp1 truthy Aw u b hp2):RE c sc n F hp (.UnaryOp .Not r p) (.dat (.boo !b)) hp2:=fun A W s env z=>
 wpAny_UnaryOp (h1.go z fun W1 u1 s1 z1 L1 x1=>not_value (wpAny_mono (h2 A W1 s1 u1 z1.a x1) (fun _ _ q=>(Wp q).later L1) fun _ _ f=>f))
theorem Gy (h1:RB c sc n F hp r b hp1):RB c sc n F hp (.UnaryOp .Not r p) (!b) hp1:=fun A W s env z=>wpAny_isTrue_Not (wpAny_mono (h1 A W s env z) (fun _ _ q=>Wq q) fun _ _ f=>f)
theorem xV (h1:RB c sc n F hp r b hp1)(h2:b=true→RE c sc n F hp1 l v hp2)(h3:b=false→RE c sc n F hp1 x v hp2):RE c sc n F hp (.IfExp r l x p) v hp2:=fun A W s env z=>
 wpAny_IfExp (h1.go z fun W1 a s1 z1 L1 x1=>by
  rw[show a=b from x1]
  cases b with
  |true=>exact fin L1 (h2 rfl A W1 s1 env z1)
  |false=>exact fin L1 (h3 rfl A W1 s1 env z1))
theorem xW (h1:RB c sc n F hp r b hp1)(h2:b=true→RB c sc n F hp1 l b' hp2)(h3:b=false→RB c sc n F hp1 x b' hp2):RB c sc n F hp (.IfExp r l x p) b' hp2:=fun A W s env z=>by
 show wpAny _ _ (PySem.isTrue _ env _) _ _ _
 rw[arm_isTrue_IfExp]
 refine bK (h1.go z fun W1 a s1 z1 L1 x1=>?_)
 rw[show a=b from x1]
 cases b with
 |true=>exact fin L1 (h2 rfl A W1 s1 env z1)
 |false=>exact fin L1 (h3 rfl A W1 s1 env z1)
theorem LB {op:BoolOp}(h:RE c sc n F hp r v hp1):RA c sc n F hp op p [r] v hp1:=fun A W s env z=>by cases op <;>exact h A W s env z
theorem Ba {op:BoolOp}(h1:RE c sc n F hp r u hp1)(h2:Ax c n hp1 truthy Aw u b hp2)(h3:b=eW op→v=u∧hp3=hp2)(h4:b= !eW op→RA c sc n F hp2 op p (x::rs) v hp3):RA c sc n F hp op p (r::x::rs) v hp3:=fun A W s env z=>by
 show wpAny _ A (do let v ← eval r env;standAt p;let t ← holding [v] (truthy v);match op,t with|.And,false|.Or,true=>pure v|_,_=>boolOp p op (evalEach (x::rs) env)) _ _ _
 refine bK (h1.go z fun W1 u1 s1 z1 L1 x1=>bK (wpAny_standAt (bK (wpAny_holding (go z1.a (h2 A W1 s1 u1 z1.a x1) fun W2 a s2 a2 L2 x2=>?_)))))
 rw[show a=b from x2]
 have L:=L1.trans L2
 have y:b=eW op→wpAny c.M A (pure u1) (Post c c.VT W hp s v hp3) no s2:=fun e=>by rw[(h3 e).1,(h3 e).2];exact wpAny_pure (.last (t:=s2.toks) a2 L (x1.mono L2.le))
 have q:b= !eW op→wpAny c.M A (boolOp p op (evalEach (x::rs) env)) (Post c c.VT W hp s v hp3) no s2:=fun e=>fin L (h4 e A W2 s2 env (z1.next L2 a2))
 cases op <;>cases b <;>first|exact y rfl|exact q rfl
theorem Gz {op:BoolOp}(h:RA c sc n F hp op p rs v hp1):RE c sc n F hp (.BoolOp op rs p) v hp1:=fun A W s env z=>by
 show wpAny _ _ (eval _ env) _ _ _
 rw[arm_eval_BoolOp]
 exact h A W s env z
theorem LC {op:BoolOp}:RL c sc n F hp op [] (!eW op) hp:=fun A W s env z=>match op with
 |.And=>wpAny_allTrue_And_nil (.here z.a rfl)
 |.Or=>wpAny_allTrue_Or_nil (.here z.a rfl)
theorem Bb {op:BoolOp}(h1:RB c sc n F hp r b hp1)(h2:b=eW op→b'=b∧hp2=hp1)(h3:b= !eW op→RL c sc n F hp1 op rs b' hp2):RL c sc n F hp op (r::rs) b' hp2:=fun A W s env z=>by
 cases op with
 |And=>exact wpAny_allTrue_And_cons (h1.go z fun W1 a s1 z1 L1 x1=>by
   rw[show a=b from x1]
   cases b with
   |true=>exact fin L1 (h3 rfl A W1 s1 env z1)
   |false=>rw[(h2 rfl).1,(h2 rfl).2];exact .last (t:=s1.toks) z1.a L1 rfl)
 |Or=>exact wpAny_allTrue_Or_cons (h1.go z fun W1 a s1 z1 L1 x1=>by
   rw[show a=b from x1]
   cases b with
   |false=>exact fin L1 (h3 rfl A W1 s1 env z1)
   |true=>rw[(h2 rfl).1,(h2 rfl).2];exact .last (t:=s1.toks) z1.a L1 rfl)
theorem HB {op:BoolOp}(h:RL c sc n F hp op rs b hp1):RB c sc n F hp (.BoolOp op rs p) b hp1:=fun A W s env z=>wpAny_isTrue_BoolOp (h A W s env z)
theorem HC {ya yb t:Str}{ka kb:Nat}{pa pb:Pos}(hp':(ap.endLine==p.line)=true)(hb:∀ env wh,attributeBase r "replace" env wh=wh)(h1:RE c sc n F hp r (.dat (.str t.cps.toList)) hp1)
  (g1:nb ya.cps.toList yb.cps.toList=false)(g2:rU ya.cps.toList=true)(g3:Nat.ble t.cps.toList.length lim=true)(g4:Nat.ble yb.cps.toList.length 14=true):
  RE c sc n F hp (.Call (.Attribute r "replace" ap) [.Constant (.str ya) ka pa,.Constant (.str yb) kb pb] [] p) (.dat (.str (fI ya.cps.toList yb.cps.toList 0 t.cps.toList))) hp1:=fun A W s env z=>by
 have hn:([Expr.Constant (.str ya) ka pa,.Constant (.str yb) kb pb]:List Expr).all bJ=true:=rfl
 show wpAny _ _ (eval _ env) _ _ _
 rw[arm_eval_Call,hb]
 refine wpAny_bind (h1.go z fun W1 u1 s1 z1 L1 x1=>wpAny_bind (wpAny_standAt ?_))
 obtain⟨t',rfl⟩:=eU rfl x1
 rw[bV p env hn]
 unfold methodCall
 have few:methodCallForm (2+([]:List Keyword).length) (List.map (fun r=>(false,eval r env)) [Expr.Constant (.str ya) ka pa,.Constant (.str yb) kb pb]) (backToKw p (keywordEach [] env))=true:=rfl
 rw[show([Expr.Constant (.str ya) ka pa,.Constant (.str yb) kb pb]:List Expr).length=2 from rfl,few]
 unfold calleeOf
 rw[if_pos rfl]
 refine wpAny_bind (wpAny_holding (GM.replace ?_))
 have hpos:methodCallPos true r env ap p=pure p:=by
  unfold methodCallPos
  simp[hp']
 dsimp only
 rw[hpos]
 refine wpAny_bind (wpAny_pure (sJ (spliced_cons (wpAny_Constant_str (spliced_cons (wpAny_Constant_str (spliced_nil ⟨.blt _,?_⟩)))))))
 have tk:=z1.a.tk
 refine SC.replaceW (Nat.ne_of_gt tk) (Nat.ne_of_gt (Nat.succ_pos _)) (Nat.ne_of_lt (Nat.lt_succ_self _)) ?_ (Nat.le_of_ble_eq_true g3) (Nat.le_of_ble_eq_true g4) fun t2 k=>?_
 ·rw[← aH ya,← aH yb,BE];exact g1
 ·have e:=uV t.cps.toList ya.cps.toList yb.cps.toList fun q=>by rw[q]at g2;cases g2
  rw[aH ya,aH yb]at e
  have e2:Txt.replace (st t.cps.toList) ya yb=st (fI ya.cps.toList yb.cps.toList 0 t.cps.toList):=(aH _).symm.trans (congrArg st e)
  rw[e2]
  exact(jB z1.a).later L1
noncomputable def PR (P:Params)(W:Wd):List Nm→List V→List (Value×Value)→Prop
 | [],vs,ps=>vs=[]∧ps=[]
 |x::ks,vs,ps=>∃ v vs' t u r,vs=v::vs'∧ps=(.str (st x) t,u)::r∧VR P W v u∧PR P W ks vs' r
noncomputable def o6:List Nm→List V→List (Nm×V)→List (Nm×V)
 |k::ks,v::vs,acc=>o6 ks vs (pt acc k v)
 |_,_,acc=>acc
theorem mP {W:Wd}:∀ {ks:List Nm} {vs:List V} {ps:List (Value×Value)},PR c.P W ks vs ps→∃ kvs:List (Str×Value),Carries (SK c) ps kvs∧∀ (acc:List (Nm×V)) (racc:List (Str×Value)),R2 (KR c.P W) acc racc→(acc.map (·.1)).Nodup→
  R2 (KR c.P W) (o6 ks vs acc) (merged racc kvs)∧((o6 ks vs acc).map (·.1)).Nodup
 | [],_,_=>fun w=>by obtain⟨e,e'⟩:=w;subst e e';exact⟨[],trivial,fun _ _ h1 h2=>⟨h1,h2⟩⟩
 |x::ks,_,_=>fun w=>by
  obtain⟨v,vs,t,u,r,e,e',a,b⟩:=w
  subst e e'
  obtain⟨kvs,c1,c2⟩:=mP b
  exact⟨(st x,u)::kvs,⟨beq_self_eq_true _,rfl,c1⟩,fun acc racc h1 h2=>c2 (pt acc x v) (PySem.stored racc (st x) u) (g8 a h1 h2) (gG x v h2)⟩
noncomputable abbrev RD (c:Cx)(sc:aG)(n:Nat)(F:Fx)(hp:List O)(p:Pos)(ks:List Nm)(keys:List (Option Expr))(rs:List Expr):List V→List O→Prop:=Run c sc n F hp (fun env=>evalPairs (pairTrees keys rs env p)) (fun W vs ps=>PR c.P W ks vs ps)
theorem LD:RD c sc n F hp p [] [] [] [] hp:=fun _ _ _ _ z=>pairTrees_nil_walk (.here z.a ⟨rfl,rfl⟩)
theorem LI {t:Str}{ks:List Nm}{keys:List (Option Expr)}(h1:RE c sc n F hp r u hp1)(h2:RD c sc n F hp1 p ks keys rs us hp2):RD c sc n F hp p (t.cps.toList::ks) (some (.Constant (.str t) k ap)::keys) (r::rs) (u::us) hp2:=fun A W s env z=>
 have L0:Lat W hp s W hp {s with toks:=s.toks+1}:=⟨.refl ..,.refl _,rfl⟩
 pairTrees_cons_walk (wpAny_Constant_str (h1.go (z.next L0 (z.a.next L0 z.a.rel (Nat.le_succ _))) fun W1 u1 s1 z1 L1 x1=>h2.go z1 fun W2 ps s2 z2 L2 x2=>.mk W2 z2.a.rel ((L0.trans L1).trans L2) ⟨u,us,s.toks,u1,ps,rfl,by rw[aH],x1.mono L2.le,x2⟩))
theorem HD {ks:List Nm}{keys:List (Option Expr)}(g:(keys.all (·.isSome)&&(Nat.beq keys.length rs.length&&(rU keys&&Nat.ble keys.length 15)))=true)(h:RD c sc n F (hp++[.ns []]) p ks keys rs us hp1)(e:hp1[hp.length]?.bind O.nsE=some []):
  RE c sc n F hp (.Dict keys rs p) (.ref hp.length) (hp1.set hp.length (.ns (o6 ks us []))):=fun A W s env z=>by
 have g:=Bool.and_eq_true_iff.mp g
 have g2:=Bool.and_eq_true_iff.mp g.2
 have g3:=Bool.and_eq_true_iff.mp g2.2
 refine wpAny_Dict_walk (knd:=SK c) g.1 (Nat.eq_of_beq_eq_true g2.1) (fun q=>by rw[q]at g3;cases g3.1) (Nat.le_of_ble_eq_true g3.2) ?_
 have q:=z.a.rel.alloc (o:=.ns []) (ob:={cls:=.type "dict",data:=.dict #[]}) ⟨List.nodup_nil,.mk [] 0 rfl⟩
 have L0:Lat W hp s _ _ {s with heap:=_}:=.of (t:=s.toks) q.2
 have lt:hp.length < (W.push s.heap.objs.size).n:=z.a.rel.len▸Nat.lt_succ_self _
 refine h.go (z.next L0 (z.a.next L0 q.1 (Nat.le_refl _))) fun W1 ps s1 z1 L1 x1=>?_
 obtain⟨kvs,c1,c2⟩:=mP x1
 have at_:W1.ρ hp.length=s.heap.objs.size:=(L1.le.ρ _ lt).trans (z.a.rel.push_at _)
 obtain⟨en,kk,g,E,nd⟩:=z1.a.rel.ns (gH e)
 obtain rfl:en=[]:=E
 rw[at_]at g
 refine⟨kvs,c1,⟨_,_,kk,g,⟨rfl,rfl,rfl⟩,rfl,fun e m=>absurd (List.mem_toArray.mp m) List.not_mem_nil,.nil,List.nodup_nil⟩,fun h' d sb=>?_⟩
 obtain⟨q1,q2⟩:=c2 [] [] rfl List.nodup_nil
 have y:=z1.a.rel.change (o':=.ns (o6 ks us [])) (gH e) (fun b ne=>sb.2 b (at_▸ne)) (at_.symm▸kL d q1 q2) (z1.a.rel.nof (gH e) fun _=>nofun)
 exact .mk W1 y.1 ⟨(L0.trans L1).e.trans y.2,(L0.trans L1).g,(L0.trans L1).o⟩ ⟨Nat.lt_of_lt_of_le lt L1.le.n,congrArg Value.ref at_.symm⟩
end
end
section
noncomputable abbrev RS (c:Cx)(sc:aG)(n:Nat)(F:Fx)(hp:List O)(t:Stmt):Fl→List O→Prop:=Run c sc n F hp (fun env=>exec t env) c.FT
noncomputable abbrev RX (c:Cx)(sc:aG)(n:Nat)(F:Fx)(hp:List O)(ts:List Stmt):Fl→List O→Prop:=Run c sc n F hp (fun env=>execs ts env) c.FT
noncomputable def RG (c:Cx)(sc:aG)(n:Nat)(F:Fx)(hp:List O)(r:Expr)(v:V)(hp':List O):Prop:=∀ A W s env u,AtF c sc n F hp A W s env→VR c.P W v u→c.wp A (assign r env u) (Post c p7 W hp s () hp') s
noncomputable def OV (c:Cx)(sc:aG)(n:Nat)(F:Fx)(hp:List O)(rs:List Expr)(vs:List V)(hp':List O):Prop:=∀ A W s env us,AtF c sc n F hp A W s env→VRs c.P W vs us→c.wp A (assignInOrder (rs.map fun t=>assign t env) us) (Post c p7 W hp s () hp') s
noncomputable def Fl.goes:Fl→Bool
 |.next=>true
 |_=>false
noncomputable def jI:Expr→Bool
 |.ListComp .. =>false
 |.SetComp .. =>false
 |.DictComp .. =>false
 |_=>true
theorem fR {r:Expr}(h:jI r=true)(t:Option Expr)(l:Nat)(env:Env):swapsWith r t l env=pure false:=by
 cases r with
 |ListComp=>exact nomatch h
 |SetComp=>exact nomatch h
 |DictComp=>exact nomatch h
 |_=>rfl
theorem cH (env:Env):∀ {rs:List Expr},rs.all bJ=true→assignEach rs env=rs.map fun r=>(false,assign r env)
 | [],_=>rfl
 |r::rs,h=>by
  have h:=Bool.and_eq_true_iff.mp h
  have ih:=cH env h.2
  cases r with
  |Starred=>exact nomatch h.1
  |_=>exact congrArg (List.cons (false,_)) ih
section
variable {c:Cx}{W:Wd}{hp hp1:List O}{s s1:Shared}
theorem Post.nxt:Post c p7 W hp s () hp1 () s1→Post c c.FT W hp s .next hp1 .next s1
 |.mk W' r l _=>.mk W' r l rfl
end
section
variable {c:Cx}{sc:aG}{n:Nat}{F:Fx}{hp hp1 hp2 hp3 hp4 hp5 hp6:List O}{p ap px:Pos}{r g l x m:Expr}{rs:List Expr}{u v w y:V}{us:List V}{k:Nat}{b:Bool}{t:Stmt}{ts ts2:List Stmt}{fl:Fl}{q:Str}
theorem u0:RX c sc n F hp [] .next hp:=fun _ _ _ _ z=>wpAny_execs_nil (.here z.a rfl)
theorem cI (h1:RS c sc n F hp t .next hp1)(h2:RX c sc n F hp1 ts fl hp2):RX c sc n F hp (t::ts) fl hp2:=fun A W s env z=>by
 show wpAny _ _ (execs _ env) _ _ _
 rw[execs_cons]
 exact bK (h1.go z fun W1 f s1 z1 L1 x1=>(show f=.next from x1)▸fin L1 (h2 A W1 s1 env z1))
theorem HE (h1:RS c sc n F hp t fl hp1)(g:fl.goes=false):RX c sc n F hp (t::ts) fl hp1:=fun A W s env z=>by
 show wpAny _ _ (execs _ env) _ _ _
 rw[execs_cons]
 refine bK (h1.go z fun W1 f s1 z1 L1 x1=>?_)
 have d:Post c c.FT W hp s fl hp1 f s1:=.last (t:=s1.toks) z1.a L1 x1
 cases fl with
 |next=>cases g
 |brk=>rw[show f=.brk from x1]at d ⊢;exact wpAny_pure d
 |cont=>rw[show f=.cont from x1]at d ⊢;exact wpAny_pure d
 |ret v=>exact(show ∃ u,f=.ret u∧VR c.P W1 v u from x1).elim fun u e=>by rw[e.1]at d ⊢;exact wpAny_pure d
theorem LJ (hc:jI r=true)(h:RE c sc n F hp r v hp1):RS c sc n F hp (.Expr r p) .next hp1:=fun A W s env z=>
 wpAny_Expr_any (h.go z fun W1 u1 s1 z1 L1 _=>.last (t:=s1.toks) z1.a L1 rfl) (by unfold interactive;rw[z.f.kind];rfl) (fR hc _ _ _)
theorem LK (h:RE c sc n F hp r v hp1):RS c sc n F hp (.Return (some r) p) (.ret v) hp1:=fun A W s env z=>
 wpAny_Return_some (h.go z fun W1 u1 s1 z1 L1 x1=>.last (t:=s1.toks) z1.a L1 ⟨u1,rfl,x1⟩)
theorem LM:RS c sc n F hp (.Break p) .brk hp:=fun _ _ _ _ z=>wpAny_Break (.here z.a rfl)
theorem LN:RS c sc n F hp (.Pass p) .next hp:=fun _ _ _ _ z=>wpAny_Pass (.here z.a rfl)
theorem LO {o:Option Expr}(h:RB c sc n F hp r true hp1):RS c sc n F hp (.Assert r o p) .next hp1:=fun A W s env z=>
 wpAny_Assert_holds (h.go z fun W1 a s1 z1 L1 x1=>⟨x1,.last (t:=s1.toks) z1.a L1 rfl⟩)
theorem Bc (h1:RB c sc n F hp r b hp1)(h2:b=true→RX c sc n F hp1 ts fl hp2)(h3:b=false→RX c sc n F hp1 ts2 fl hp2):RS c sc n F hp (.If r ts ts2 p) fl hp2:=fun A W s env z=>
 wpAny_If (h1.go z fun W1 a s1 z1 L1 x1=>by
  rw[show a=b from x1]
  cases b with
  |true=>exact fin L1 (h2 rfl A W1 s1 env z1)
  |false=>exact fin L1 (h3 rfl A W1 s1 env z1))
theorem b0 (hk:sc.lookup q=some .local)(e:eH F q.cps.toList v hp=some hp1):RG c sc n F hp (.Name q p) v hp1:=fun A W s env u z hv=>
 wpAny_assign_Name (by have:=p9 (x:=q.cps.toList) z (by rw[aH];unfold Env.kindOf;rw[z.sc];exact hk) hv e;rwa [aH]at this)
theorem u6 (hk:sc.lookup q=some .cell)(e:Ft F q.cps.toList v hp=some hp1):RG c sc n F hp (.Name q p) v hp1:=fun A W s env u z hv=>
 wpAny_assign_Name (by have:=Ay (x:=q.cps.toList) z (by rw[aH];unfold Env.kindOf;rw[z.sc];exact hk) hv e;rwa [aH]at this)
theorem LP (h1:RE c sc n F hp r u hp1)(h2:cG c n hp1 (fun u w=>setAttr u (st q.cps.toList) w) p7 u v () hp2):RG c sc n F hp (.Attribute r q p) v hp2:=fun A W s env w z hv=>by
 rw[aH]at h2
 rw[arm_assign_Attribute]
 exact bK (wpAny_holding (h1.go z fun W1 u1 s1 z1 L1 x1=>bK (wpAny_standAt (bK (wpAny_holding (wpAny_mono (h2 A W1 s1 u1 w z1.a x1 (hv.mono L1.le)) (fun _ _ q=>wpAny_release (q.later L1)) fun _ _ f=>f))))))
noncomputable abbrev Jd (c:Cx)(n:Nat)(hp:List O)(o i x:V)(hp':List O):Prop:=∀ A W s u v w,At c n A W hp s→VR c.P W o u→VR c.P W i v→VR c.P W x w→c.wp A (setItem u v w) (Post c p7 W hp s () hp') s
theorem Be (h1:RE c sc n F hp r u hp1)(h2:RE c sc n F hp1 x w hp2)(h3:Jd c n hp2 u w v hp3):RG c sc n F hp (.Subscript r x p) v hp3:=fun A W s env y z hv=>by
 rw[arm_assign_Subscript]
 exact bK (wpAny_holding (h1.go z fun W1 u1 s1 z1 L1 x1=>bK (wpAny_holding (h2.go z1 fun W2 u2 s2 z2 L2 x2=>bK (wpAny_standAt (bK (wpAny_holding (wpAny_mono (h3 A W2 s2 u1 u2 y z2.a (x1.mono L2.le) x2 (hv.mono (L1.trans L2).le)) (fun _ _ q=>wpAny_release (q.later (L1.trans L2))) fun _ _ f=>f))))))))
theorem u7:OV c sc n F hp [] [] hp:=fun A W s env us z hv=>by
 obtain rfl:us=[]:=hv
 exact wpAny_pure (.here z.a trivial)
theorem jJ (h1:RG c sc n F hp r v hp1)(h2:OV c sc n F hp1 rs us hp2):OV c sc n F hp (r::rs) (v::us) hp2:=fun A W s env _ z (.mk (a:=u1) (l:=us1) hu hr)=>by
 show wpAny _ A (do holding us1 (assign r env u1);assignInOrder (rs.map fun t=>assign t env) us1) _ _ _
 exact bK (wpAny_holding (go z.a (h1 A W s env u1 z hu) fun W1 _ s1 a1 L1 _=>fin L1 (h2 A W1 s1 env us1 (z.next L1 a1) (VRs.mono L1.le hr))))
theorem strange {A:Around}{W:Wd}{s:Shared}{h':Heap}(z:At c n A W hp s)(kp:∀ b o,b≠s.heap.objs.size→s.heap.get? b=some o→h'.get? b=some o):Rel c.P W hp h'∧Lat W hp s W hp {s with heap:=h'}:=
 ⟨z.rel.poke z.rel.new_live z.rel.new_cold kp,.of (t:=s.toks) ((Ext.refl W hp s.heap).poke (match e:s.heap.get? s.heap.objs.size with|none=>rfl|some _=>absurd (Heap.lt_size e) (Nat.lt_irrefl _)) kp)⟩
theorem u8 {vs:List V}(hn:rs.all bJ=true)(hl:Nat.beq vs.length rs.length=true)(e:dN v hp=some vs)(h:OV c sc n F hp rs vs hp1):RG c sc n F hp (.Tuple rs k p) v hp1:=fun A W s env u z hv=>match u,dO z.a.rel hv e with
 |_,.mk a us m I d=>by
  have el:=cH env hn
  refine wpAny_assign_Tuple z.a.room.hd (items:=us.toArray) ⟨_,I,rfl,m,rfl⟩ ?_ ?_ fun h' sb=>?_
  ·rw[el,List.length_map,List.size_toArray,R2.len d,Nat.eq_of_beq_eq_true hl]
  ·rw[el,List.findIdx?_map]
   exact List.findIdx?_eq_none_iff.mpr fun _ _=>rfl
  ·rw[el,List.map_map]
   have q:=strange z.a fun b o ne e=>sb b o ne e
   exact fin q.2 (h A W _ env us (z.next q.2 (z.a.next q.2 q.1 (Nat.le_refl _))) d)
theorem LQ (h0:(bJ g&&jI r)=true)(hs:∀ env,env.scope.kind=.function→env.scope.names=sc→swappedStores [g] r env=pure none)(h1:RE c sc n F hp r v hp1)(h2:RG c sc n F hp1 g v hp2):RS c sc n F hp (.Assign [g] r p) .next hp2:=fun A W s env z=>by
 have h0:=Bool.and_eq_true_iff.mp h0
 refine wpAny_Assign_stores (h1.go z fun W1 u1 s1 z1 L1 x1=>?_) (fR h0.2 _ _ _) (hs env z.f.kind z.sc)
 have e:(assignEach [g] env).map (·.2)=[assign g env]:=by
  rw[cH env (rs:=[g]) (Bool.and_eq_true_iff.mpr ⟨h0.1,rfl⟩)]
  rfl
 rw[e]
 exact wpAny_mono (h2 A W1 s1 env u1 z1 x1) (fun _ _ q=>(q.nxt).later L1) fun _ _ f=>f
theorem LR {op:Op}(hk:sc.lookup q=some .local)(e:zQ F q.cps.toList hp=some u)(h2:RE c sc n F hp r w hp1)(h3:cG c n hp1 (inplaceOp (fA op)) c.VT u w v hp2)(e2:eH F q.cps.toList v hp2=some hp3):RS c sc n F hp (.AugAssign (.Name q px) (fA op) r p) .next hp3:=fun A W s env z=>by
 have hk':env.kindOf (st q.cps.toList)=some .local:=by rw[aH];unfold Env.kindOf;rw[z.sc];exact hk
 have l1:=JW z hk' e
 rw[aH]at l1
 show wpAny _ _ (exec _ env) _ _ _
 rw[arm_exec_AugAssign]
 refine bK (wpAny_standAt (bK (go z.a l1 fun W1 u1 s1 a1 L1 x1=>bK (wpAny_holding (h2.go (z.next L1 a1) fun W2 u2 s2 z2 L2 x2=>bK (wpAny_standAt (bK (wpAny_operate' (go z2.a (h3 A W2 s2 u1 u2 z2.a (x1.mono L2.le) x2) fun W3 u3 s3 a3 L3 x3=>?_)))))))))
 have s3':=p9 (z2.next L3 a3) hk' x3 e2
 rw[aH]at s3'
 exact bK (wpAny_standAt (bK (wpAny_bindName (wpAny_mono s3' (fun _ _ q=>wpAny_pure (q.nxt.later ((L1.trans L2).trans L3))) fun _ _ f=>f))))
theorem LS {op:Op}(h1:RE c sc n F hp l y hp1)(h2:∀ e,Ax c n hp1 (fun u=>getAttr u (st q.cps.toList) e) c.VT y u hp2)(h3:RE c sc n F hp2 r w hp3)(h4:cG c n hp3 (inplaceOp (fA op)) c.VT u w v hp4)(h5:cG c n hp4 (fun u w=>setAttr u (st q.cps.toList) w) p7 y v () hp5):
  RS c sc n F hp (.AugAssign (.Attribute l q px) (fA op) r p) .next hp5:=fun A W s env z=>by
 rw[aH]at h2 h5
 refine wpAny_AugAssign_AttributeAny (h1.go z fun W1 u1 s1 z1 L1 x1=>go z1.a (h2 _ A W1 s1 u1 z1.a x1) fun W2 u2 s2 a2 L2 x2=>h3.go (z1.next L2 a2) fun W3 u3 s3 z3 L3 x3=>go z3.a (h4 A W3 s3 u2 u3 z3.a (x2.mono L3.le) x3) fun W4 u4 s4 a4 L4 x4=>?_)
 exact wpAny_mono (h5 A W4 s4 u1 u4 a4 (((x1.mono L2.le).mono L3.le).mono L4.le) x4) (fun _ _ q=>q.nxt.later (((L1.trans L2).trans L3).trans L4)) fun _ _ f=>f
theorem LU {op:Op}(hn:gL x=true)(h1:RE c sc n F hp l y hp1)(h2:RE c sc n F hp1 x w hp2)(h3:cG c n hp2 getItem c.VT y w u hp3)(h4:RE c sc n F hp3 r v hp4){v':V}(h5:cG c n hp4 (inplaceOp (fA op)) c.VT u v v' hp5)(h6:Jd c n hp5 y w v' hp6):
  RS c sc n F hp (.AugAssign (.Subscript l x px) (fA op) r p) .next hp6:=fun A W s env z=>by
 refine wpAny_AugAssign_SubscriptAny (h1.go z fun W1 u1 s1 z1 L1 x1=>h2.go z1 fun W2 u2 s2 z2 L2 x2=>go z2.a (h3 A W2 s2 u1 u2 z2.a (x1.mono L2.le) x2) fun W3 u3 s3 a3 L3 x3=>h4.go (z2.next L3 a3) fun W4 u4 s4 z4 L4 x4=>go z4.a (h5 A W4 s4 u3 u4 z4.a (x3.mono L4.le) x4) fun W5 u5 s5 a5 L5 x5=>?_)
  (by intro a b c;cases x with
  |Slice=>exact nomatch hn
  |_=>rfl)
 exact wpAny_mono (h6 A W5 s5 u1 u2 u5 a5 ((((x1.mono L2.le).mono L3.le).mono L4.le).mono L5.le) (((x2.mono L3.le).mono L4.le).mono L5.le) x5) (fun _ _ q=>q.nxt.later ((((L1.trans L2).trans L3).trans L4).trans L5)) fun _ _ f=>f
end
section
variable {c:Cx}{sc:aG}{n:Nat}{F:Fx}{hp hp1:List O}{body:List Stmt}{h0:ExceptHandler}{hs:List ExceptHandler}{p:Pos}{fl:Fl}
theorem LV (h:RX c sc n F hp body fl hp1):RS c sc n F hp (.Try body (h0::hs) [] [] p) fl hp1:=fun A W s env z=>by
 refine wpAny_Try_except (wpAny_mono (E:=no) (h A W s env z) (fun f s' p=>?_) fun _ _ f=>f.elim)
 cases f with
 |next=>exact wpAny_execs_nil p
 |_=>exact p
end
end
section
noncomputable def LW (a:Int):Nat→Nat→List V
 |0,_=>[]
 |n+1,i=>.dat (.int (a+i))::LW a n (i+1)
noncomputable def u9 (a b:Int):Nat:=(b-a).toNat
theorem qM (a:Int):∀ (n i k:Nat),(LW a n i)[k]? =if k<n then some (.dat (.int (a+(i+k:Nat))))else none
 |0,_,_=>rfl
 |n+1,i,0=>rfl
 |n+1,i,k+1=>(qM a n (i+1) k).trans (by rw[Nat.add_right_comm,Nat.add_assoc];by_cases h:k<n;rw[if_pos h,if_pos (Nat.succ_lt_succ h)];rw[if_neg h,if_neg fun q=>h (Nat.lt_of_succ_lt_succ q)])
noncomputable def iD (x:Nm):List V:=x.map fun a=>.dat (.str [a])
noncomputable def cN (v:V)(hp:List O):Option (List V):=match v with
 |.dat (.str x)=>some (iD x)
 |.dat (.tup ds)=>some (ds.map .dat)
 |.dat (.dct es)=>some (es.map fun p=>.dat (.str p.1))
 |.rng a b=>some (LW a (u9 a b) 0)
 |v=>items v hp
noncomputable def Bf:List Nm→Bool
 | []=>true
 |x::r=> !bM x r&&Bf r
theorem sL {x:Nm}{l:List Nm}(m:x∈l):bM x l=true:=List.any_eq_true.mpr ⟨x,m,iZ x⟩
theorem xX:∀ {l:List Nm},Bf l=true→l.Nodup
 | [],_=>List.nodup_nil
 |x::r,h=>have h:=Bool.and_eq_true_iff.mp h;List.nodup_cons.mpr ⟨fun m=>Bool.false_ne_true (((Bool.not_eq_true' _).mp h.1).symm.trans (sL m)),xX h.2⟩
noncomputable def UK (es:List (Nm×D)):Bool:=Bf (es.map (·.1))&& !bM Au (es.map (·.1))
noncomputable def qN:V→Bool
 |.rng a b=>c9 a&&c9 b
 |.dat (.dct es)=>UK es
 |_=>true
noncomputable def dW (it:Addr)(h h':Heap):Prop:=∀ b o,b≠it→h.get? b=some o→h'.get? b=some o
theorem aL {a:Addr}{h h':Heap}(x:Heap.SameBut a h h'):dW a h h':=fun b _ q e=>(x.2 b q).trans e
section
variable {c:Cx}
structure NextOk (c:Cx) (it:Addr) (Φ:Nat→Obj→Prop) (W:Wd) (hp:List O) (s:Shared) (k:Nat) (all:List V):Prop where
 item:∀ (x:V) (A:Around) (Q:Option Value→Shared→Prop),all[k]? =some x→
   (∀ h' t' u,VR c.P W x u→Got h' it (Φ (k+1))→dW it s.heap h'→Q (some u) {s with heap:=h',toks:=t'})→c.wp A (pyNext (.ref it)) Q s
 stop:∀ (A:Around) (Q:Option Value→Shared→Prop),A.handled=none→all[k]? =none→(∀ h' t',dW it s.heap h'→Q none {s with heap:=h',toks:=t'})→c.wp A (pyNext (.ref it)) Q s
noncomputable def o7 (c:Cx)(it:Addr)(Φ:Nat→Obj→Prop)(v:V)(W0:Wd):Prop:=∀ W hp s k all,W0.le W→Rel c.P W hp s.heap→Got s.heap it (Φ k)→cN v hp=some all→NextOk c it Φ W hp s k all
theorem zY {v:V}{u:Value}{it l:Addr}{W0:Wd}(hu:u=.ref l)(hv:VR c.P W0 v u)(hi:∀ hp xs,cN v hp=some xs→items v hp=some xs):
  o7 c it (fun k o=>o.cls=.type "list_iterator" ∧o.data=.fields #[.ref l,.int k 0]) v W0:=fun W hp s k all le R g e=>match g with
 |.mk o ho h=>by
  subst hu
  have I':s.heap.IsListIter it l k:=⟨o,ho,h.1,h.2⟩
  obtain⟨us,n,I,d⟩:∃ us n,s.heap.get? l=some ⟨.type "list",none,.seq (List.toArray us) n,#[]⟩∧VRs c.P W all us:=match aT R (hv.mono le) (hi _ _ e)with
   |.mk _ us n I d=>⟨us,n,I,d⟩
  have L:s.heap.IsList l us.toArray:=⟨_,I,rfl,n,rfl⟩
  exact⟨fun x A Q ex q=>(R2.at d ex).elim fun u r=>wpAny_pyNext_list_item I' L ((List.getElem?_toArray ..).trans r.1) fun h' ⟨o',g1,g2,g3⟩ sb=>q h' s.toks u r.2 (.mk o' g1 ⟨g2,g3⟩) (aL sb),
   fun A Q hh ex q=>wpAny_pyNext_list_end hh I' L (by rw[List.getElem?_toArray,List.getElem?_eq_none_iff,R2.len d];exact List.getElem?_eq_none_iff.mp ex) fun h' sb=>q h' s.toks fun b o q e=>sb b o q e⟩
theorem vA {v:V}{u:Value}{it l:Addr}{W0:Wd}(hu:u=.ref l)(hv:VR c.P W0 v u)(hi:∀ hp xs,cN v hp=some xs→dN v hp=some xs):
  o7 c it (fun k o=>o.cls=.type "tuple_iterator" ∧o.data=.fields #[.ref l,.int k 0]) v W0:=fun W hp s k all le R g e=>match g with
 |.mk o ho h=>by
  subst hu
  have I':s.heap.IsTupleIter it l k:=⟨o,ho,h.1,h.2⟩
  obtain⟨us,n,I,d⟩:∃ us n,s.heap.get? l=some ⟨.type "tuple",none,.seq (List.toArray us) n,#[]⟩∧VRs c.P W all us:=match dO R (hv.mono le) (hi _ _ e)with
   |.mk _ us n I d=>⟨us,n,I,d⟩
  have L:s.heap.IsTuple l us.toArray:=⟨_,I,rfl,n,rfl⟩
  exact⟨fun x A Q ex q=>(R2.at d ex).elim fun u r=>wpAny_pyNext_tuple_item I' L ((List.getElem?_toArray ..).trans r.1) fun h' ⟨o',g1,g2,g3⟩ sb=>q h' s.toks u r.2 (.mk o' g1 ⟨g2,g3⟩) (aL sb),
   fun A Q hh ex q=>wpAny_pyNext_tuple_end hh I' L (by rw[List.getElem?_toArray,List.getElem?_eq_none_iff,R2.len d];exact List.getElem?_eq_none_iff.mp ex) fun h' sb=>q h' s.toks fun b o q e=>sb b o q e⟩
theorem sM {x:Nm}{it:Addr}{t:Tok}{W0:Wd}{ty:String}(hty:ty="str_ascii_iterator" ∨ty="str_iterator"):
  o7 c it (fun k o=>o.cls=.type ty∧o.data=.fields #[.str (st x) t,.int k 0]) (.dat (.str x)) W0:=fun W hp s k all le R g e=>match g with
 |.mk o ho h=>by
  cases e
  have I':s.heap.IsStrIter it ty (st x) t k:=⟨o,ho,h.1,h.2⟩
  have at_:(st x).cps[k]? =x[k]? :=List.getElem?_toArray ..
  refine⟨fun y A Q ex q=>?_,fun A Q hh ex q=>?_⟩
  ·obtain⟨a,ha,rfl⟩:=aS (List.getElem?_map.symm.trans ex)
   rcases hty with rfl|rfl
   ·exact wpAny_pyNext_ascii_item I' (at_.trans ha) fun h' ⟨o',g1,g2,g3⟩ sb=>q h' (s.toks+1) _ (.mk _) (.mk o' g1 ⟨g2,g3⟩) (aL sb)
   ·exact wpAny_pyNext_wide_item I' (at_.trans ha) fun h' ⟨o',g1,g2,g3⟩ sb=>q h' (s.toks+1) _ (.mk _) (.mk o' g1 ⟨g2,g3⟩) (aL sb)
  ·have ha:x[k]? =none:=Option.map_eq_none_iff.mp (List.getElem?_map.symm.trans ex)
   rcases hty with rfl|rfl
   ·exact wpAny_pyNext_ascii_end hh I' (at_.trans ha) fun h' sb=>q h' s.toks fun b o q e=>sb b o q e
   ·exact wpAny_pyNext_wide_end hh I' (at_.trans ha) fun h' sb=>q h' s.toks fun b o q e=>sb b o q e
theorem Bg {a b:Int}{k:Nat}(h:k<u9 a b):a<b∧0<b-a - (k:Int)∧a+(k:Int)+1=a+((k+1:Nat):Int)∧b-a - (k:Int)-1=b-a - ((k+1:Nat):Int):=by unfold u9 at h;lia
theorem HF {a b:Int}{k:Nat}(h:¬ k<u9 a b):(if a<b then b-a else 0) - (k:Int)≤0:=by unfold u9 at h;split <;>lia
theorem vB {a b:Int}{it:Addr}{W0:Wd}:o7 c it (fun k o=>o={cls:=.type "range_iterator",data:=.fields #[rawInt (a+k),rawInt ((if a<b then b-a else 0)-k),rawInt 1]}) (.rng a b) W0:=fun W hp s k all le R g e=>match g with
 |.mk o ho h=>by
  cases e
  subst h
  have I':IsRangeIter s.heap it (a+k) ((if a<b then b-a else 0)-k) 1:=ho
  refine⟨fun y A Q ex q=>?_,fun A Q hh ex q=>?_⟩
  ·rw[qM]at ex
   by_cases h:k<u9 a b
   ·rw[if_pos h,Nat.zero_add]at ex
    cases ex
    obtain⟨h1,h2,h3,h4⟩:=Bg h
    rw[if_pos h1]at I'
    refine wpAny_pyNext_range_item I' h2 fun h' g sb=>q h' (s.toks+1) _ (.mk _) (.mk _ g ?_) (aL sb)
    rw[if_pos h1,h3,h4]
   ·rw[if_neg h]at ex;cases ex
  ·rw[qM]at ex
   by_cases h:k<u9 a b
   ·rw[if_pos h]at ex;cases ex
   ·exact wpAny_pyNext_range_end hh I' (HF h) fun h' sb=>q h' s.toks fun b o q e=>sb b o q e
theorem Bj {es:List (Nm×D)}{W:Wd}{hp:List O}{h:Heap}{a:Addr}{en:List DictEntry}{n:Nat}(R:Rel c.P W hp h)(f:W.fz a=some ⟨.type "dict",none,.dict en.toArray n,#[]⟩)(d:DRe c.P W.fz es en)(g:Bf (es.map (·.1))=true):
  ∃ kvs:List (Str×Value),kvs.map (·.1)=(es.map (·.1)).map st∧kvs.length=es.length∧h.DictAt (SK c) a kvs n:=by
 have E:=DRe.er d
 obtain⟨ks,r,p⟩:=ER.rows (c:=c) E
 have e:ks.map (·.1)=(es.map (·.1)).map st:=(KR.keys r).trans (by rw[List.map_map (f:=fun p:Nm×D=>(p.1,V.dat p.2))];rfl)
 exact⟨ks,e,(R2.len r).trans (List.length_map ..),_,_,R.fz _ _ f,⟨rfl,rfl,rfl⟩,rfl,E.keysOf,p,e▸gK (xX g)⟩
theorem zZ {es:List (Nm×D)}{it a:Addr}{en:List DictEntry}{n:Nat}{W0:Wd}(f:W0.fz a=some ⟨.type "dict",none,.dict en.toArray n,#[]⟩)(d:DRe c.P W0.fz es en)(g:Bf (es.map (·.1))=true):
  o7 c it (fun k o=>o.cls=.type "dict_keyiterator" ∧o.data=.fields #[.ref a,.int k 0,.int es.length 0,.int n 0]) (.dat (.dct es)) W0:=fun W hp s k all le R g' e=>match g' with
 |.mk o ho h=>by
  cases e
  obtain⟨kvs,k1,k2,hm⟩:=Bj R (le.fz _ _ f) (DRe.mono le.fz d) g
  have I':s.heap.IsKeyIter it a k kvs.length n:=⟨o,ho,h.1,k2▸h.2⟩
  have at_:∀ i:Nat,(kvs[i]?).map (·.1)=(es[i]?).map fun p=>st p.1:=fun i=>by
   rw[← List.getElem?_map,k1,List.map_map,List.getElem?_map];rfl
  refine⟨fun y A Q ex q=>?_,fun A Q hh ex q=>?_⟩
  ·obtain⟨p,hp,rfl⟩:=aS (List.getElem?_map.symm.trans ex)
   have:=at_ k
   rw[hp]at this
   obtain⟨kv,hk,e1⟩:=aS this
   refine wpAny_pyNext_dict_item I' hm (k:=kv.1) (v:=kv.2) hk fun key h' ki ⟨o',g1,g2,g3⟩ sb=>q h' s.toks key ?_ (.mk o' g1 ⟨g2,k2▸g3⟩) (aL sb)
   have ki:Value.isStrOf kv.1 key=true:=ki
   obtain⟨t,rfl⟩:=Value.isStrOf_shape ki
   exact(show st p.1=kv.1 from e1.symm) ▸ .mk t
  ·have hn:es[k]? =none:=Option.map_eq_none_iff.mp (List.getElem?_map.symm.trans ex)
   have:=at_ k
   rw[hn]at this
   exact wpAny_pyNext_dict_end hh I' hm (Option.map_eq_none_iff.mp this) fun h' sb=>q h' s.toks fun b o q e=>sb b o q e
noncomputable def Bk:List String:=["enumerate","zip","dict_itemiterator","dict_reverseitemiterator","odict_iterator","itertools.zip_longest","itertools.pairwise"]
noncomputable def lG (c:Cx)(T:String):Prop:=∀ (A:Around) (s:Shared) (it:Addr) (Q:Value→Shared→Prop),s.TypeIs (.ref it) T→Q (.ref it) s→c.wp A (pyIter (.ref it)) Q s
theorem kO {T id:String}{B:Builtin}{r:Value}(slot:Slot T "__iter__" id)(entry:entryFor table id=some B)(args:∀ v,argsOk id ⟨[v],[]⟩)(run:∀ v,B ⟨[v],[]⟩=ret v)(next:typeLookup (.type T) "__next__" =pure (some r)):lG c T:=fun A s it Q hT h=>by
 refine wpAny_pyIter_slot hT slot (wpAny_call_entry slot hT entry ?_ (args _))
 show wpAny _ _ (B ⟨[.ref it],[]⟩) _ _ s
 rw[run]
 exact wpAny_pure ⟨_,rfl,T,_,hT,next,h⟩
structure ItT (c:Cx) (o:Obj) (T:String):Prop where
 cls:o.cls=.type T
 own:Bk.contains T=false
 nf:(T=="frame")=false
 self:lG c T
noncomputable def xY (c:Cx)(Φ:Nat→Obj→Prop):Prop:=∀ k o,Φ k o→∃ T,ItT c o T
theorem z9:lG c "dict_keyiterator" :=kO F.slot_dict_keyiterator_iter F.entry_dict_keyiterator_iter F.args_dict_keyiterator_iter_1 (fun _=>rfl) F.slot_dict_keyiterator_next.lookup
theorem o8:lG c "list_iterator" :=kO slot_listiter_iter entry_listiter_iter args_listiter_iter (fun _=>rfl) slot_listiter_next.lookup
theorem vC:lG c "tuple_iterator" :=kO F.slot_tuple_iterator_iter F.entry_tuple_iterator_iter F.args_tuple_iterator_iter_1 (fun _=>rfl) F.slot_tuple_iterator_next.lookup
theorem vE:lG c "str_ascii_iterator" :=kO F.slot_str_ascii_iterator_iter F.entry_str_ascii_iterator_iter F.args_str_ascii_iterator_iter_1 (fun _=>rfl) F.slot_str_ascii_iterator_next.lookup
theorem AA:lG c "str_iterator" :=kO F.slot_str_iterator_iter F.entry_str_iterator_iter F.args_str_iterator_iter_1 (fun _=>rfl) F.slot_str_iterator_next.lookup
theorem vG:lG c "range_iterator" :=kO F.slot_range_iterator_iter F.entry_range_iterator_iter F.args_range_iterator_iter_1 (fun _=>rfl) F.slot_range_iterator_next.lookup
theorem HH {o:Obj}{T:String}(e:o.cls=.type T)(n:(T=="frame")=false):frm o=false:=by
 obtain⟨c,d,x,s⟩:=o
 cases(e:c=.type T)
 cases x with
 |dict=>exact decide_eq_false (beq_eq_false_iff_ne.mp n)
 |_=>rfl
structure ItOk (c:Cx) (it:Addr) (ob:Obj) (Φ:Nat→Obj→Prop) (v:V) (W:Wd):Prop where
 free:ob.isFreed=false
 first:Φ 0 ob
 plain:xY c Φ
 draws:o7 c it Φ v W
theorem ItOk.nf {c:Cx}{it:Addr}{ob:Obj}{Φ:Nat→Obj→Prop}{v:V}{W:Wd}(I:ItOk c it ob Φ v W)(k:Nat)(o:Obj)(h:Φ k o):frm o=false:=(I.plain k o h).elim fun _ t=>HH t.cls t.nf
section
variable {A:Around}{W:Wd}{hp:List O}{s:Shared}{u:Value}{Q:Value→Shared→Prop}
theorem xZ {v:V}{xs:List V}(R:Rel c.P W hp s.heap)(hv:VR c.P W v u)(e:items v hp=some xs)(hi:∀ hp xs,cN v hp=some xs→items v hp=some xs)(h:∀ ob Φ,ItOk c s.heap.objs.size ob Φ v W→Q (.ref s.heap.objs.size) {s with heap:=s.heap.push ob}):c.wp A (pyIter u) Q s:=(by rcases aT R hv e with⟨a,us,n,I,d⟩;exact wpAny_pyIter_list ⟨_,I,rfl,n,rfl⟩ (h _ _ ⟨rfl,⟨rfl,rfl⟩,fun _ _ q=>⟨_,q.1,by decide+kernel,by decide+kernel,o8⟩,zY rfl hv hi⟩))
theorem sN {es:List (Nm×D)}{a:Addr}{en:List DictEntry}{n:Nat}(k0:(W0 c.K).le W)(f:W.fz a=some ⟨.type "dict",none,.dict en.toArray n,#[]⟩)(d:DRe c.P W.fz es en)(g:bM Au (es.map (·.1))=false):(a==sysModules)=false:=by
 refine beq_eq_false_iff_ne.mpr fun q=>?_
 subst q
 obtain⟨e,r,m,t,l,k⟩:=c.top.mods
 have f2:=(k0.fz _ _ l).symm.trans f
 cases f2
 cases es with
 |nil=>exact nomatch (d:(e::r:List DictEntry)=[])
 |cons p es=>
  obtain⟨x,y⟩:=p
  match(d:Two _ _ _)with
  |.mk (.mk _ t' _ k' _) _=>
   rw[k]at k'
   injection k' with k1 k2
   have:Au=x:=mB k1
   subst this
   rw[sL (by exact List.mem_cons_self)]at g
   cases g
theorem vH (k0:(W0 c.K).le W)(R:Rel c.P W hp s.heap):∀ {v:V} {all:List V},VR c.P W v u→cN v hp=some all→qN v=true→(∀ ob Φ,ItOk c s.heap.objs.size ob Φ v W→Q (.ref s.heap.objs.size) {s with heap:=s.heap.push ob})→c.wp A (pyIter u) Q s:=by
 intro v all hv e g h
 cases v with
 |dat d=>cases d with
  |str x=>exact match u,(hv:IsS x u)with
   |_,.mk t=>by
    cases ha:(st x).cps.all (· < 128)with
    |true=>exact wpAny_pyIter_ascii ha (h _ _ ⟨rfl,⟨rfl,rfl⟩,fun _ _ q=>⟨_,q.1,by decide+kernel,by decide+kernel,vE⟩,sM (.inl rfl)⟩)
    |false=>exact wpAny_pyIter_wide ha (h _ _ ⟨rfl,⟨rfl,rfl⟩,fun _ _ q=>⟨_,q.1,by decide+kernel,by decide+kernel,AA⟩,sM (.inr rfl)⟩)
  |tup ds=>exact match u,dO R hv (e:dN (.dat (.tup ds)) hp=some all),hv with
   |_,.mk a us n I d,hv=>wpAny_pyIter_tuple ⟨_,I,rfl,n,rfl⟩ (h _ _ ⟨rfl,⟨rfl,rfl⟩,fun _ _ q=>⟨_,q.1,by decide+kernel,by decide+kernel,vC⟩,vA rfl hv fun _ _ e=>e⟩)
  |dct es=>exact match u,(hv:IsDct W.fz (DRe c.P W.fz es) u)with
   |_,.mk a en n f d=>by
    have g:=Bool.and_eq_true_iff.mp g
    obtain⟨kvs,_,k2,hm⟩:=Bj R f d g.1
    exact wpAny_pyIter_dict (sN k0 f d ((Bool.not_eq_true' _).mp g.2)) hm (h _ _ ⟨rfl,⟨rfl,by rw[k2];rfl⟩,fun _ _ q=>⟨_,q.1,by decide+kernel,by decide+kernel,z9⟩,zZ f d g.1⟩)
  |_=>exact xZ R hv e (fun _ _ e=>e) h
 |rng a b=>exact match u,(hv:IsR W.fz a b u)with
  |_,.mk p t t' t'' f=>by
   have g:=Bool.and_eq_true_iff.mp g
   have gB:∀ {i:Int},c9 i=true→ -4611686018427387904≤i∧i<4611686018427387904:=fun {i} g=>by
    cases i with
    |ofNat n=>have:n≤1048576:=Nat.le_of_ble_eq_true g;rw[Int.ofNat_eq_natCast];lia
    |negSucc n=>have:n≤1048576:=Nat.le_of_ble_eq_true g;rw[Int.negSucc_eq];lia
   have ga:=gB g.1
   have gb:=gB g.2
   refine wpAny_pyIter_range (R.fz _ _ f) (small_one ga.1 ga.2 gb.1 gb.2) (h _ _ ⟨rfl,?_,fun _ _ q=>⟨"range_iterator",by rw[q],by decide+kernel,by decide+kernel,vG⟩,vB⟩)
   rw[rangeSize_one,Int.natCast_zero,Int.add_zero,Int.sub_zero]
 |_=>exact xZ R hv e (fun _ _ e=>e) h
end
structure Away (W:Wd) (hp:List O) (h:Heap) (it:Addr) (Φ:Obj→Prop):Prop where
 ob:Got h it Φ
 nl:¬ Live W hp it
 nz:W.fz it=none
 nf:∀ o,Φ o→frm o=false
section
variable {W W' W1:Wd}{hp hp' hp1:List O}{h h' h1:Heap}{it:Addr}{Φ:Obj→Prop}
theorem Away.ext (x:Away W hp h it Φ)(E:Ext W hp h W' hp' h'):Away W' hp' h' it Φ:=by
 rcases x.ob with⟨o,g,r⟩
 exact have X:=E.at_ it o g
  ⟨.mk o ((X.keep x.nl).eq (x.nf o r)) r,fun l=>x.nl (X.live l),match e:W'.fz it with
   |none=>rfl
   |some o'=>(X.cool o' e).elim (fun f=>(eG f x.nz).elim) fun l=>absurd l x.nl,x.nf⟩
theorem eX (E:Ext W hp h W' hp' h'){a:Addr}(n:h'.get? a=none):h.get? a=none:=match e:h.get? a with
 |none=>rfl
 |some o=>(by rcases(E.at_ a o e).ex with⟨_,e',_⟩;exact(eG e' n).elim)
theorem Fs.poke {A:Around}{it:Addr}{h h':Heap}{Φ:Obj→Prop}(g:Got h it Φ)(nf:∀ o,Φ o→frm o=false)(kp:dW it h h'):Fs A h→Fs A h'
 |.mk l e a=>.mk l e fun env m=>match a env m,g with
  |.mk L o k f g m,.mk ob g' r=>.mk L o k f (kp L o (fun q=>Bool.noConfusion (m.symm.trans (kH (Option.some.inj ((q▸g').symm.trans g)▸nf ob r)))) g) m
theorem cO (h:Heap):h.get? h.objs.size=none:=match e:h.get? h.objs.size with
 |none=>rfl
 |some o=>absurd (Heap.lt_size e) (Nat.lt_irrefl _)
theorem Rel.strange {P:Params}{ob:Obj}(R:Rel P W hp h):Rel P W hp (h.push ob)∧Ext W hp h W hp (h.push ob):=
 ⟨R.poke R.new_live R.new_cold fun _ _ _ e=>Heap.get?_push_of_some _ e,(Ext.refl W hp h).poke (cO h) fun _ _ _ e=>Heap.get?_push_of_some _ e⟩
end
noncomputable def Fl.on:Fl→Bool
 |.next=>true
 |.cont=>true
 |_=>false
noncomputable def Fl.stp:Fl→Option Fl
 |.brk=>some .next
 |.ret v=>some (.ret v)
 |_=>none
inductive Gc (base:Nat) (hp:List O):List O→Prop
 |id:Gc base hp hp
 |fold {fz τ:List Nat} {v:V} {hp':List O} (e:gJ base fz τ (.dat .non) hp=some (v,hp')):Gc base hp hp'
inductive WhS (c:Cx) (sc:aG) (n:Nat) (F:Fx) (t:Expr) (body:List Stmt) (base:Nat) (R:List O→Fl→List O→Prop) (hp:List O):Fl→List O→Prop
 |stop {hp1:List O} (h1:RB c sc n F hp t false hp1):WhS c sc n F t body base R hp .next hp1
 |turn {hp1 hp2 hp3 hp4:List O} {fl fl':Fl} (h1:RB c sc n F hp t true hp1) (h2:RX c sc n F hp1 body fl hp2) (on:fl.on=true) (gc:Gc base hp2 hp3) (h3:R hp3 fl' hp4):WhS c sc n F t body base R hp fl' hp4
 |out {hp1 hp2:List O} {fl fl':Fl} (h1:RB c sc n F hp t true hp1) (h2:RX c sc n F hp1 body fl hp2) (out:fl.stp=some fl'):WhS c sc n F t body base R hp fl' hp2
noncomputable def Bl (c:Cx)(sc:aG)(n:Nat)(F:Fx)(t:Expr)(body:List Stmt)(base:Nat)(m:Nat):List O→Fl→List O→Prop:=Nat.rec (fun _ _ _=>False) (fun _ R=>WhS c sc n F t body base R) m
inductive FoS (c:Cx) (sc:aG) (n:Nat) (F:Fx) (g:Expr) (body:List Stmt) (base:Nat) (v:V) (R:List O→Fl→List O→Prop) (k:Nat) (hp:List O):Fl→List O→Prop
 |stop {all:List V} (e:cN v hp=some all) (x:all[k]? =none):FoS c sc n F g body base v R k hp .next hp
 |turn {hp1 hp2 hp3 hp4:List O} {all:List V} {y:V} {fl fl':Fl} (e:cN v hp=some all) (x:all[k]? =some y) (h1:RG c sc n F hp g y hp1) (h2:RX c sc n F hp1 body fl hp2) (on:fl.on=true) (gc:Gc base hp2 hp3) (h3:R hp3 fl' hp4):FoS c sc n F g body base v R k hp fl' hp4
 |out {hp1 hp2:List O} {all:List V} {y:V} {fl fl':Fl} (e:cN v hp=some all) (x:all[k]? =some y) (h1:RG c sc n F hp g y hp1) (h2:RX c sc n F hp1 body fl hp2) (out:fl.stp=some fl'):FoS c sc n F g body base v R k hp fl' hp2
noncomputable def Bn (c:Cx)(sc:aG)(n:Nat)(F:Fx)(g:Expr)(body:List Stmt)(base:Nat)(v:V)(m:Nat):Nat→List O→Fl→List O→Prop:=Nat.rec (fun _ _ _ _=>False) (fun _ R k=>FoS c sc n F g body base v (R (k+1)) k) m
end
section
variable {c:Cx}{sc:aG}{n:Nat}{F:Fx}{A:Around}{W W1 W2:Wd}{hp hp1 hp2 hp3:List O}{s s1 s2:Shared}{env:Env}
inductive GcR (c:Cx) (n:Nat) (A:Around) (W:Wd) (hp:List O) (s:Shared) (W2:Wd) (hp2:List O) (hp3:List O) (s2:Shared):Prop
 |mk (W3:Wd) (z:At c n A W3 hp3 s2) (L:Lat W hp s W3 hp3 s2) (C:WF W2 hp2 W3 hp3)
theorem x0 (z:At c n A W hp s)(z2:At c n A W2 hp2 s2)(L:Lat W hp s W2 hp2 s2)(g:Gc hp.length hp2 hp3):GcR c n A W hp s W2 hp2 hp3 s2:=by
 cases g with
 |id=>exact .mk W2 z2 L fun _ n z=>⟨n,z⟩
 |fold e=>exact(by rcases i5 (u:=.none) (v:=.dat .non) (z.rel.len.symm▸e:gJ W.n _ _ (.dat .non) hp2=_) (.mk W2 z2.rel L.e rfl fun _ n z=>⟨n,z⟩)with⟨W3,R,E,_,C⟩;exact .mk W3 ⟨z2.room,R,fun a o e=>E.le.fz a o (z.kin a o e),z2.tk,z2.fs⟩ ⟨E,L.g,L.o⟩ C)
theorem Bo {P:Params}{fl:Fl}{f:Flow}(x:JX P W fl f)(h:fl.on=true):f=.next∨f=.cont:=by
 cases fl with
 |next=>exact .inl x
 |cont=>exact .inr x
 |_=>cases h
theorem Bp {P:Params}{fl fl':Fl}{f:Flow}(x:JX P W fl f)(h:fl.stp=some fl'):(f=.brk∧JX P W fl' .next)∨∃ v,f=.ret v∧JX P W fl' (.ret v):=by
 cases fl with
 |brk=>exact .inl ⟨x,Option.some.inj h▸rfl⟩
 |ret w=>exact .inr (x.elim fun u q=>⟨u,q.1,Option.some.inj h ▸ ⟨u,rfl,q.2⟩⟩)
 |_=>cases h
inductive WhI (c:Cx) (sc:aG) (n:Nat) (F:Fx) (t:Expr) (body:List Stmt) (fl:Fl) (hp':List O) (A:Around) (W:Wd) (hp:List O) (s:Shared) (env:Env) (m:Nat) (s1:Shared):Prop
 |mk (W1:Wd) (hp1:List O) (z:AtF c sc n F hp1 A W1 s1 env) (l:Lat W hp s W1 hp1 s1) (h:Bl c sc n F t body hp.length m hp1 fl hp'):WhI c sc n F t body fl hp' A W hp s env m s1
theorem vI {t:Expr}{body:List Stmt}{p:Pos}{m:Nat}{fl:Fl}{hp':List O}(h:Bl c sc n F t body hp.length m hp fl hp'):RS c sc n F hp (.While t body [] p) fl hp':=fun A W s env z=>by
 refine wpAny_While (codeAny_whileLoop (WhI c sc n F t body fl hp' A W hp s env) ?_ m (.mk W hp z (.refl ..) h))
 rintro m s1 ⟨W1,hp1,z1,L1,h⟩
 cases m with
 |zero=>exact(h:False).elim
 |succ m=>
 cases(h:WhS ..)with
 |stop h1=>exact wpAny_mono (h1.go z1 (Z:=fun b s2=>if b=true then _ else _) fun W2 b s2 z2 L2 x2=>by
   rw[show b=false from x2]
   exact wpAny_execs_nil (.last (t:=s2.toks) z2.a (L1.trans L2) rfl)) (fun _ _ x=>x) fun _ _ f=>f.elim
 |turn h1 h2 on gc h3=>exact wpAny_mono (h1.go z1 (Z:=fun b s2=>if b=true then _ else _) fun W2 b s2 z2 L2 x2=>by
   rw[show b=true from x2]
   refine wpAny_mono (h2.go z2 fun W3 f s3 z3 L3 x3=>?_) (fun _ _ x=>x) fun _ _ f=>f.elim
   match x0 z.a z3.a ((L1.trans L2).trans L3) gc with
   |.mk W4 z4 L4 _=>
    rcases Bo x3 on with rfl|rfl
    ·exact⟨_,Nat.lt_succ_self _,.mk W4 _ (z.next L4 z4) L4 h3⟩
    ·exact⟨_,Nat.lt_succ_self _,.mk W4 _ (z.next L4 z4) L4 h3⟩) (fun _ _ x=>x) fun _ _ f=>f.elim
 |out h1 h2 out=>exact wpAny_mono (h1.go z1 (Z:=fun b s2=>if b=true then _ else _) fun W2 b s2 z2 L2 x2=>by
   rw[show b=true from x2]
   refine wpAny_mono (h2.go z2 fun W3 f s3 z3 L3 x3=>?_) (fun _ _ x=>x) fun _ _ f=>f.elim
   have L:=(L1.trans L2).trans L3
   rcases Bp x3 out with⟨rfl,x⟩|⟨v,rfl,x⟩
   ·exact .last (t:=s3.toks) z3.a L x
   ·exact .last (t:=s3.toks) z3.a L x) (fun _ _ x=>x) fun _ _ f=>f.elim
theorem lH {it:Addr}{Φ Ψ:Obj→Prop}{h':Heap}{t:Nat}(z:AtF c sc n F hp1 A W1 s1 env)(L:Lat W hp s W1 hp1 s1)(nn:s.heap.get? it=none)(a:Away W1 hp1 s1.heap it Φ)(kp:dW it s1.heap h')(tk:s1.toks≤t):
  AtF c sc n F hp1 A W1 {s1 with heap:=h',toks:=t} env∧Lat W hp s W1 hp1 {s1 with heap:=h',toks:=t}∧((∀ o,Ψ o→frm o=false)→Got h' it Ψ→Away W1 hp1 h' it Ψ):=
 ⟨⟨⟨z.a.room,z.a.rel.poke a.nl a.nz kp,z.a.kin,Nat.lt_of_lt_of_le z.a.tk tk,z.a.fs.poke a.ob a.nf kp⟩,z.f,z.sc,z.top⟩,⟨L.e.poke nn kp,L.g,L.o⟩,fun nf g=>⟨g,a.nl,a.nz,nf⟩⟩
section
variable {c:Cx}
theorem jK {A:Around}{s:Shared}{target:Expr}{it:Addr}{v:Value}{Φ:Nat→Obj→Prop}{k:Nat}{Q:Unit→Shared→Prop}(hp:xY c Φ)(h:Got s.heap it (Φ k))(q:Q () s):c.wp A (letOwnedTupleGo target (.ref it) v) Q s:=match h with
 |.mk o ho hΦ=>(hp k o hΦ).elim fun T I=>by
  have go:wpAny c.M A (do
    let(.ref r,.ref a):=((.ref it,v):Value×Value)|return
    let o ← load r
    match o.cls,o.data with
    |.type n,.fields vs=>
     if Bk.contains n&&vs[0]? ==some (rawInt a)then
      rule "for.unpacks-the-owned-tuple"
      updateField r 0 .none
    |_,_=>pure ():Sem Unit) Q no s:=by
   cases v with
   |ref a=>
    refine wpAny_bind (wpAny_load ho ?_)
    rw[I.cls]
    cases hd:o.data with
    |fields vs=>
     simp only[I.own,Bool.false_and,Bool.false_eq_true,if_false]
     exact wpAny_pure q
    |_=>exact wpAny_pure q
   |_=>exact wpAny_pure q
  unfold letOwnedTupleGo
  cases target with
  |Tuple=>exact go
  |List=>exact go
  |_=>exact wpAny_pure q
end
structure FQ where
 c:Cx
 sc:aG
 n:Nat
 F:Fx
 g:Expr
 body:List Stmt
 v:V
 A:Around
 W:Wd
 hp:List O
 s:Shared
 env:Env
 it:Addr
 Φ:Nat→Obj→Prop
inductive FoI (q:FQ) (fl:Fl) (hp':List O) (m:Nat) (s2:Shared):Prop
 |mk (k:Nat) (W2:Wd) (hp2:List O) (z:AtF q.c q.sc q.n q.F hp2 q.A W2 s2 q.env) (l:Lat q.W q.hp q.s W2 hp2 s2) (aw:Away W2 hp2 s2.heap q.it (q.Φ k)) (h:Bn q.c q.sc q.n q.F q.g q.body q.hp.length q.v m k hp2 fl hp'):FoI q fl hp' m s2
structure FoB (q:FQ) (ob:Obj):Prop where
 I:ItOk q.c q.it ob q.Φ q.v q.W
 z:AtF q.c q.sc q.n q.F q.hp q.A q.W q.s q.env
 nn:q.s.heap.get? q.it=none
theorem sO {q:FQ}{k:Nat}{W2:Wd}{hp2 hp3 hp4:List O}{s2:Shared}{y:V}{u:Value}{fl:Fl}(z:AtF q.c q.sc q.n q.F hp2 q.A W2 s2 q.env)(l:Lat q.W q.hp q.s W2 hp2 s2)(aw:Away W2 hp2 s2.heap q.it (q.Φ k))(hu:VR q.c.P W2 y u)
  (g1:RG q.c q.sc q.n q.F hp2 q.g y hp3)(g2:RX q.c q.sc q.n q.F hp3 q.body fl hp4){Q:Flow→Shared→Prop}{E1 E2:Value→Shared→Prop}
  (h:∀ f W4 s4,AtF q.c q.sc q.n q.F hp4 q.A W4 s4 q.env→Lat q.W q.hp q.s W4 hp4 s4→Away W4 hp4 s4.heap q.it (q.Φ k)→JX q.c.P W4 fl f→Q f s4):wpAny q.c.M q.A (assign q.g q.env u) (fun _ s₂=>wpAny q.c.M q.A (execs q.body q.env) Q E2 s₂) E1 s2:=
 wpAny_mono (go z.a (g1 q.A W2 _ q.env u z hu) fun _ _ _ a3 L3 _=>wpAny_mono (g2.go (z.next L3 a3) fun W4 f s4 z4 L4 x4=>h f W4 s4 z4 ((l.trans L3).trans L4) ((aw.ext L3.e).ext L4.e) x4) (fun _ _ x=>x) fun _ _ f=>f.elim) (fun _ _ x=>x) fun _ _ f=>f.elim
theorem Bq {q:FQ}{ob:Obj}(B:FoB q ob){fl:Fl}{hp':List O}{m:Nat}{s':Shared}(h:FoI q fl hp' m s'){R:Result→Shared→Prop}(hR:∀ f W' s',At q.c q.n q.A W' hp' s'→Lat q.W q.hp q.s W' hp' s'→JX q.c.P W' fl f→R (.ok f) s'):
  codeAny q.c.M q.A (.forLoop q.g (.ref q.it) q.body [] q.env) R s':=by
 refine codeAny_forLoop_any (FoI q fl hp') ?_ m h
 rintro m s2 ⟨k,W2,hp2,z2,L2,aw,h⟩
 cases m with
 |zero=>exact(h:False).elim
 |succ m=>
 have draw:=fun all e=>B.I.draws W2 hp2 s2 k all L2.le z2.a.rel aw.ob e
 refine wpAny_mono (wpAny_with_toks (E:=no) (Nat.le_refl s2.toks) (wpAny_mono (E:=no) ?_ (fun _ _ q=>q) fun _ _ f=>f.elim)) (fun _ _ x=>x) fun _ _ f=>f.elim
 cases(h:FoS ..)with
 |stop e x=>
  refine(draw _ e).stop q.A _ z2.a.room.hd x ?_
  intro h' t' kp (tk:s2.toks≤t')
  have p:=lH (Ψ:=fun _=>True) z2 L2 B.nn aw kp tk
  exact wpAny_execs_nil (hR _ _ _ p.1.a p.2.1 rfl)
 |turn e x g1 g2 on gc g3=>
  refine(draw _ e).item _ q.A _ x ?_
  intro h' t' u' hu g kp (tk:s2.toks≤t')
  have p:=lH (Ψ:=q.Φ (k+1)) z2 L2 B.nn aw kp tk
  refine wpAny_mono (E:=no) (jK B.I.plain g ?_) (fun _ _ x=>x) fun _ _ f=>f.elim
  refine sO p.1 p.2.1 (p.2.2 (B.I.nf _) g) hu g1 g2 fun f W4 s4 z4 L4 aw4 x4=>?_
  obtain⟨W5,z5,L5,C5⟩:=x0 B.z.a z4.a L4 gc
  have c5:=C5 _ aw4.nl aw4.nz
  have I5:=FoI.mk (q:=q) (k+1) W5 _ (B.z.next L5 z5) L5 ⟨aw4.ob,c5.1,c5.2,aw4.nf⟩ g3
  rcases Bo x4 on with rfl|rfl
  ·exact⟨_,Nat.lt_succ_self _,I5⟩
  ·exact⟨_,Nat.lt_succ_self _,I5⟩
 |out e x g1 g2 out=>
  refine(draw _ e).item _ q.A _ x ?_
  intro h' t' u' hu g kp (tk:s2.toks≤t')
  have p:=lH (Ψ:=q.Φ (k+1)) z2 L2 B.nn aw kp tk
  refine wpAny_mono (E:=no) (jK B.I.plain g ?_) (fun _ _ x=>x) fun _ _ f=>f.elim
  refine sO p.1 p.2.1 (p.2.2 (B.I.nf _) g) hu g1 g2 fun f W4 s4 z4 L4 aw4 x4=>?_
  rcases Bp x4 out with⟨rfl,x⟩|⟨v,rfl,x⟩
  ·exact hR _ _ _ z4.a L4 x
  ·exact hR _ _ _ z4.a L4 x
theorem kP {i gt:Expr}{p:Pos}{body:List Stmt}{m:Nat}{v:V}{fl:Fl}{hp':List O}(hf:∀ env x,foldedSetIterable i env x=pure x)(h1:RE c sc n F hp i v hp1)(hr:qN v=true)(hi:(cN v hp1).isSome=true)
  (h:Bn c sc n F gt body hp1.length v m 0 hp1 fl hp'):RS c sc n F hp (.For gt i body [] p) fl hp':=fun A W s env z=>by
 refine wpAny_For (h1.go z fun W1 u s1 z1 L1 x1=>?_) (hf env)
 refine(Option.isSome_iff_exists.mp hi).elim fun all e=>vH z1.a.le0 z1.a.rel x1 e hr fun ob Φ I=>?_
 have st0:=z1.a.rel.strange (ob:=ob)
 exact Bq (q:=⟨c,sc,n,F,gt,body,v,A,W1,hp1,s1,env,s1.heap.objs.size,Φ⟩) ⟨I,z1,cO s1.heap⟩
  (.mk 0 W1 hp1 (z1.next (.of (t:=s1.toks) st0.2) (z1.a.next (.of (t:=s1.toks) st0.2) st0.1 (Nat.le_refl _))) (.of (t:=s1.toks) st0.2) ⟨.mk ob (Heap.get?_push_size _ I.free) I.first,z1.a.rel.new_live,z1.a.rel.new_cold,I.nf 0⟩ h)
  fun f W' s' a L x=>.last (t:=s'.toks) a (L1.trans L) x
theorem x6 {v:V}{all:List V}{it:Addr}{Φ:Nat→Obj→Prop}{ob:Obj}{W0:Wd}{s0:Shared}{hp0:List O}(I:ItOk c it ob Φ v W0)(le:W0.le W)(e:cN v hp=some all)(nn:s0.heap.get? it=none):∀ (xs:List V) (k:Nat) (s:Shared) {Q:List Value→Shared→Prop},all.drop k=xs→
  AtF c sc n F hp A W s env→Lat W0 hp0 s0 W hp s→Away W hp s.heap it (Φ k)→(∀ us s',AtF c sc n F hp A W s' env→Lat W0 hp0 s0 W hp s'→Away W hp s'.heap it (Φ (k+xs.length))→VRs c.P W xs us→Q us s')→c.wp A (draw (.ref it) xs.length) Q s
 | [],k,s,_,_,z,L,aw,h=>wpAny_pure (h [] s z L aw rfl)
 |x::xs,k,s,_,d,z,L,aw,h=>by
  have hk:all[k]? =some x:=by have:=congrArg (·[0]?) d;simpa using this
  have hd:all.drop (k+1)=xs:=by rw[← List.drop_drop,d];rfl
  show wpAny _ _ (pyNext (.ref it) >>= _) _ _ s
  refine bK (wpAny_with_toks (n:=s.toks) (Nat.le_refl _) (wpAny_mono (E:=no) ((I.draws W hp s k all le z.a.rel aw.ob e).item x A _ hk fun h' t' u hu g kp (tk:s.toks≤t')=>?_) (fun _ _ q=>q) fun _ _ f=>f.elim))
  have p:=lH (Ψ:=Φ (k+1)) z L nn aw kp tk
  refine bK (wpAny_holding (x6 I le e nn xs (k+1) _ hd p.1 p.2.1 (p.2.2 (I.nf _) g) fun us s' z' L' aw' r=>wpAny_pure (h _ s' z' L' ?_ (.mk hu r))))
  rw[show k+(x::xs).length=k+1+xs.length by rw[List.length_cons];lia]
  exact aw'
theorem sP {v:V}{vs:List V}(e:items v hp=some vs):cN v hp=some vs∧qN v=true:=by
 cases v with
 |dat d=>cases d with
  |lst=>exact⟨e,rfl⟩
  |_=>cases e
 |ref=>exact⟨e,rfl⟩
 |_=>cases e
theorem LX {rs:List Expr}{k:Nat}{p:Pos}{v:V}{vs:List V}(hn:rs.all bJ=true)(hl:Nat.beq vs.length rs.length=true)(e:items v hp=some vs)(h:OV c sc n F hp rs vs hp1):RG c sc n F hp (.Tuple rs k p) v hp1:=fun A W s env u z hv=>by
 have e':=(sP e).1
 have hr:=(sP e).2
 have el:=cH env hn
 rw[arm_assign_Tuple]
 refine wpAny_bind (wpAny_standAt ?_)
 unfold unpack
 rw[el,List.length_map,show List.findIdx? (·.1) (rs.map fun r=>(false,assign r env))=none from(List.findIdx?_map ..).trans (List.findIdx?_eq_none_iff.mpr fun _ _=>rfl),← Nat.eq_of_beq_eq_true hl]
 refine wpAny_bind (wpAny_holding ?_)
 unfold unpackItems notIterableAtAll
 have tl:s.TypeIs u "list" :=match u,aT z.a.rel hv e with
  |_,.mk a us m I d=>⟨_,I,rfl⟩
 refine wpAny_bind (wpAny_bind (wpAny_specialOf tl slot_list_iter.lookup (wpAny_pure ?_)))
 simp only[Bool.false_eq_true,if_false]
 refine wpAny_bind (wpAny_holding (vH z.a.le0 z.a.rel hv e' hr fun ob Φ I=>?_))
 have st0:=z.a.rel.strange (ob:=ob)
 have L0:Lat W hp s W hp {s with heap:=s.heap.push ob}:=.of (t:=s.toks) st0.2
 refine wpAny_bind (wpAny_holding (x6 I (.refl W) e' (cO s.heap) vs 0 _ rfl (z.next L0 (z.a.next L0 st0.1 (Nat.le_refl _))) L0 ⟨.mk ob (Heap.get?_push_size _ I.free) I.first,z.a.rel.new_live,z.a.rel.new_cold,I.nf 0⟩ fun us s' z' L' aw' r=>?_))
 rw[if_neg (by rw[R2.len r];exact Nat.lt_irrefl _)]
 refine wpAny_bind (wpAny_holding (wpAny_with_toks (n:=s'.toks) (Nat.le_refl _) (wpAny_mono (E:=no) ((I.draws W hp s' _ vs (.refl W) z'.a.rel aw'.ob e').stop A _ z'.a.room.hd (by rw[Nat.zero_add];exact List.getElem?_eq_none (Nat.le_refl _)) fun h' t' kp (tk:s'.toks≤t')=>?_) (fun _ _ q=>q) fun _ _ f=>f.elim)))
 have p:=lH (Ψ:=fun _=>True) z' L' (cO s.heap) aw' kp tk
 simp only[Option.isSome_none,Bool.false_eq_true,if_false,List.map_map]
 exact wpAny_pure (fin p.2.1 (h A W _ env us p.1 r))
end
end
section
noncomputable def mQ:NameKind→Bool
 |.free=>true
 |_=>false
theorem AB:∀ k:NameKind,(k==.free)=mQ k:=by intro k;cases k <;>rfl
noncomputable def mR (cells:List (Str×Addr)):aG→List (Str×Addr)→Option (List (Str×Addr))
 | [],acc=>some acc
 |p::r,acc=>match mQ p.2 with
  |true=>(cells.lookup p.1).bind fun a=>mR cells r ((p.1,a)::acc)
  |false=>mR cells r acc
theorem qO {env:Env}(f:Str×NameKind→List (Str×Addr)→Sem (ForInStep (List (Str×Addr))))(hf:∀ p acc,f p acc=if p.2==.free then(do let a ← cellOf env p.1;pure (.yield ((p.1,a)::acc)))else pure (.yield acc)):
  ∀ {names:aG} {acc cl:List (Str×Addr)},mR env.cells names acc=some cl→forIn names acc f=pure cl
 | [],_,_,h=>by cases h;rfl
 |p::r,acc,cl,h=>by
  unfold mR at h
  rw[List.forIn_cons,hf,AB]
  cases hk:mQ p.2 with
  |true=>
   rw[hk]at h
   obtain⟨a,e,h⟩:=aJ h
   have:cellOf env p.1=pure a:=by unfold cellOf;rw[e]
   rw[if_pos rfl,this]
   exact qO f hf h
  |false=>rw[hk]at h;exact qO f hf h
theorem vK {scope:Scope}{env:Env}{cl:List (Str×Addr)}(h:mR env.cells scope.names []=some cl):closureFor scope env=pure cl:=by
 simp only[closureFor]
 rw[qO (env:=env) _ (fun p acc=>by cases hk:p.2==NameKind.free <;>simp[hk]) h]
 simp
noncomputable def b5:aG→List Nm
 | []=>[]
 |p::r=>match mQ p.2 with
  |true=>p.1.cps.toList::b5 r
  |false=>b5 r
noncomputable def eJ (cs:List (Nm×Nat)):List Nm→List (Nm×Nat)
 | []=>[]
 |x::r=>match lk cs x with
  |some l=>(x,l)::eJ cs r
  |none=>eJ cs r
theorem vL {cs:List (Nm×Nat)}{x:Nm}{l:Nat}:∀ {caps:List Nm},lk (eJ cs caps) x=some l→x∈caps∧lk cs x=some l
 | [],h=>nomatch h
 |y::r,h=>by
  unfold eJ at h
  cases e:lk cs y with
  |some l'=>rw[e]at h;exact(qC h).elim (fun q=>⟨q.1 ▸ .head _,q.1▸q.2▸e⟩) fun q=>(vL q.2).imp (.tail _) id
  |none=>rw[e]at h;exact(vL h).imp (.tail _) id
theorem mS {W:Wd}{cs:List (Nm×Nat)}{cells:List (Str×Addr)}(C:CelR W cs cells):∀ {names:aG} (acc:List (Str×Addr)),(b5 names).all (fun x=>(lk cs x).isSome)=true→
  (∀ x l,lk cs x=some l→(acc.lookup (st x)).isSome=true→acc.lookup (st x)=cells.lookup (st x))→
  ∃ cl,mR cells names acc=some cl∧(∀ x,(acc.lookup (st x)).isSome=true∨x∈b5 names→(cl.lookup (st x)).isSome=true)∧∀ x l,lk cs x=some l→(cl.lookup (st x)).isSome=true→cl.lookup (st x)=cells.lookup (st x)
 | [],acc,_,h2=>⟨acc,rfl,fun x h=>h.elim id fun m=>absurd m List.not_mem_nil,h2⟩
 |(y,k)::r,acc,h1,h2=>by
  unfold b5 at h1 ⊢
  unfold mR
  dsimp only at h1 ⊢
  cases hk:mQ k with
  |false=>rw[hk]at h1;exact mS C acc h1 h2
  |true=>
   rw[hk]at h1
   have h1:=Bool.and_eq_true_iff.mp h1
   obtain⟨l,hl⟩:=Option.isSome_iff_exists.mp h1.1
   have hc:=(C _ l hl).2
   rw[aH]at hc
   obtain⟨cl,c1,c2,c3⟩:=mS C ((y,W.ρ l)::acc) h1.2 fun x l' hx hs=>by
    rw[List.lookup_cons]at hs ⊢
    cases q:st x==y with
    |true=>rw[eq_of_beq q,hc]
    |false=>rw[q]at hs;exact h2 x l' hx hs
   refine⟨cl,by rw[hc];exact c1,fun x h=>c2 x ?_,c3⟩
   rcases h with h|h
   ·refine .inl ?_
    rw[List.lookup_cons]
    cases st x==y with
    |true=>rfl
    |false=>exact h
   ·exact(List.mem_cons.mp h).elim (fun e=>.inl (by rw[e,aH,List.lookup_cons,beq_self_eq_true];rfl)) .inr
noncomputable def fB (sc:aG)(names:aG):aG:=names.map fun(n,k)=>if(k==.free&&true&&sc.lookup n==some .cell)then(n,.cell)else(n,k)
theorem oD {scope:Scope}{env:Env}{sc:aG}(hk:env.scope.kind=.function)(hsc:env.scope.names=sc):(relabel scope env).names=fB sc scope.names:=by
 unfold relabel fB Env.kindOf
 rw[hk,hsc]
 rfl
section
variable {c:Cx}
inductive TsR (c:Cx) (sc:aG) (n:Nat) (F:Fx) (hp:List O):List Expr→Bool→List O→Prop
 |nil:TsR c sc n F hp [] true hp
 |one {t:Expr} {b:Bool} {hp':List O} (h:RB c sc n F hp t b hp'):TsR c sc n F hp [t] b hp'
theorem TsR.go {sc:aG}{n:Nat}{F:Fx}{hp hp1:List O}{ts:List Expr}{b:Bool}{A:Around}{W:Wd}{s:Shared}{env:Env}(h:TsR c sc n F hp ts b hp1)(z:AtF c sc n F hp A W s env){Z:Bool→Shared→Prop}
  (k:∀ W1 s1,AtF c sc n F hp1 A W1 s1 env→Lat W hp s W1 hp1 s1→Z b s1):c.wp A (forIn ts true fun c r=>if r=true then do let ok ← PySem.isTrue c env (eval c env);pure (ForInStep.yield ok)else pure (ForInStep.yield r)) Z s:=by
 cases h with
 |nil=>exact wpAny_tests_nil (k W s z (.refl ..))
 |one h=>exact wpAny_tests_one (h.go z fun W1 a s1 z1 L1 x=>(show a=b from x)▸k W1 s1 z1 L1)
inductive CoS (c:Cx) (sc:aG) (n:Nat) (F:Fx) (g:Expr) (ts:List Expr) (e:Expr) (L:Nat) (v:V) (R:List O→List O→Prop) (k:Nat) (hp:List O):List O→Prop
 |stop {all:List V} (i:cN v hp=some all) (x:all[k]? =none):CoS c sc n F g ts e L v R k hp hp
 |turn {hp1 hp1' hp2 hp3:List O} {all xs:List V} {y w:V} (i:cN v hp=some all) (x:all[k]? =some y) (h1:RG c sc n F hp g y hp1) (ht:TsR c sc n F hp1 ts true hp1') (h2:RE c sc n F hp1' e w hp2) (el:hp2[L]?.bind O.lstE=some xs) (z:Nat.ble xs.length lim=true)
   (h3:R (hp2.set L (.lst (xs++[w]))) hp3):CoS c sc n F g ts e L v R k hp hp3
 |skip {hp1 hp2 hp3:List O} {all:List V} {y:V} (i:cN v hp=some all) (x:all[k]? =some y) (h1:RG c sc n F hp g y hp1) (ht:TsR c sc n F hp1 ts false hp2) (h3:R hp2 hp3):CoS c sc n F g ts e L v R k hp hp3
noncomputable def sQ (c:Cx)(sc:aG)(n:Nat)(F:Fx)(g:Expr)(ts:List Expr)(e:Expr)(L:Nat)(v:V)(m:Nat):Nat→List O→List O→Prop:=Nat.rec (fun _ _ _=>False) (fun _ R k=>CoS c sc n F g ts e L v (R (k+1)) k) m
structure ComOk (scope:Scope) (ri:Expr) (cs:List (Nm×Nat)):Prop where
 kind:scope.kind=.function
 cell:b8 scope.names=[]
 caps:(b5 scope.names).all (fun x=>(lk cs x).isSome)=true
 names:∀ x∈scope.names,x.2=.local→scope.names.lookup x.1=some .local
 fold:∀ env x,foldedSetIterable ri env x=pure x
structure ComE (c:Cx) (n:Nat) (A:Around) (W:Wd) (hp:List O) (s:Shared) (L:Nat) (W':Wd) (hp':List O) (s':Shared) (dD dC:Addr):Prop where
 a:At c n A W' hp' s'
 l:Lat W hp s W' hp' s'
 ltL:L+1<W'.n
 aC:W'.ρ (L+1)=dC
 aD:W'.ρ L=dD
 nC:s.heap.get? dC=none
variable {sc:aG}{n:Nat}{F:Fx}{A:Around}{W:Wd}{hp hp1 hp2:List O}{s:Shared}{env:Env}{re ri rt:Expr}{ts:List Expr}{scope:Scope}{pos:Pos}{v:V}{m:Nat}
theorem HI {W7:Wd}{hp4:List O}{s7:Shared}{xs:List V}{w:V}{yu:Value}{L:Nat}{dD:Addr}{Q:Value→Shared→Prop}(z7:AtF c sc n F hp4 A W7 s7 env)(el:hp4[L]?.bind O.lstE=some xs)(zz:Nat.ble xs.length lim=true)(x7:VR c.P W7 w yu)(hd:W7.ρ L=dD)
  (h:∀ u W8 s8,AtF c sc n F (hp4.set L (.lst (xs++[w]))) A W8 s8 env→Lat W7 hp4 s7 W8 (hp4.set L (.lst (xs++[w]))) s8→Q u s8):c.wp A (call (.builtin "list.append") [.ref dD,yu]) Q s7:=by
 subst hd
 match z7.a.rel.lst (c8 el)with
 |.mk us kk gd d=>
  refine call_meets PySem.F.slot_list_append ⟨_,gd,rfl⟩ PySem.F.entry_list_append (PySem.F.args_list_append_2 _ _) (list_append _ us.toArray kk yu (by rw[List.size_toArray,R2.len d];exact bH zz)) ⟨gd,?_⟩
  exact(by rcases(fH (RR:=p7) (b:=()) (r:=()) z7.a (c8 el) gd (R2.app d (R2.one x7)) (List.push_toArray ..) trivial:Post c p7 W7 _ s7 () _ () {s7 with heap:=s7.heap.update (W7.ρ L) (Obj.mapSeq fun x=>x.push yu),toks:=s7.toks})with⟨W8,R8,L8,_⟩;exact h _ W8 _ ⟨z7.a.next L8 R8 (Nat.le_refl _),z7.f.mono L8.le,z7.sc,z7.top⟩ L8)
structure CQ where
 c:Cx
 sc:aG
 n:Nat
 F:Fx
 rt:Expr
 ts:List Expr
 re:Expr
 L:Nat
 v:V
 hp2:List O
 A:Around
 W:Wd
 hp:List O
 s:Shared
 W1:Wd
 W4:Wd
 cE:Env
 it:Addr
 dD:Addr
 Φ:Nat→Obj→Prop
inductive CoI (q:CQ) (m:Nat) (s':Shared):Prop
 |mk (k:Nat) (W':Wd) (hp':List O) (z:AtF q.c q.sc q.n q.F hp' q.A W' s' q.cE) (l:Lat q.W q.hp q.s W' hp' s') (le:q.W4.le W') (aw:Away W' hp' s'.heap q.it (q.Φ k)) (h:sQ q.c q.sc q.n q.F q.rt q.ts q.re q.L q.v m k hp' q.hp2):CoI q m s'
structure CoB (q:CQ) (ob:Obj):Prop where
 I:ItOk q.c q.it ob q.Φ q.v q.W1
 le:q.W1.le q.W4
 nb:q.s.heap.get? q.it=none
 lD:∀ {W'},q.W4.le W'→W'.ρ q.L=q.dD
theorem Br {q:CQ}{ob:Obj}(B:CoB q ob){m:Nat}{s':Shared}(h:CoI q m s'){Q:Fin→Shared→Prop}(hstop:∀ W' s',At q.c q.n q.A W' q.hp2 s'→Lat q.W q.hp q.s W' q.hp2 s'→q.W4.le W'→Q (.done .next) s')
  (hturn:∀ m' s',m'<m→CoI q m' s'→Q (.again (.compLoop (.ListComp q.re [⟨q.rt,ri,q.ts,0⟩] scope pos) 0 (.ref q.it) (.ref q.dD) q.cE)) s'):q.c.wp q.A (compTurn (.ListComp q.re [⟨q.rt,ri,q.ts,0⟩] scope pos) 0 (.ref q.it) (.ref q.dD) q.cE) Q s':=by
 obtain⟨k,W',hp',Z',L',le,aw,h⟩:=h
 cases m with
 |zero=>exact(h:False).elim
 |succ m=>
 rw[compTurn_list]
 refine wpAny_bind (wpAny_standAt (wpAny_bind (wpAny_with_toks (n:=s'.toks) (Nat.le_refl _) (wpAny_mono (E:=no) ?_ (fun _ _ x=>x) fun _ _ f=>f.elim))))
 have draw:=fun all e=>B.I.draws W' hp' s' k all (B.le.trans le) Z'.a.rel aw.ob e
 cases(h:CoS ..)with
 |stop i x=>
  refine(draw _ i).stop q.A _ Z'.a.room.hd x ?_
  intro h' t' kp (tk:s'.toks≤t')
  have z:=lH (Ψ:=fun _=>True) Z' L' B.nb aw kp tk
  exact wpAny_pure (hstop W' {s' with heap:=h',toks:=t'} z.1.a z.2.1 le)
 |turn i x g1 gt g2 el zz g3=>
  refine(draw _ i).item _ q.A _ x ?_
  intro h' t' u' hu g kp (tk:s'.toks≤t')
  have z:=lH (Ψ:=q.Φ (k+1)) Z' L' B.nb aw kp tk
  refine wpAny_bind (jK B.I.plain g (wpAny_bind (go z.1.a (g1 q.A W' _ q.cE u' z.1 hu) fun W5 _ s6 a6 L6 _=>?_)))
  dsimp only
  refine wpAny_bind (gt.go (z.1.next L6 a6) fun Wt st zt Lt=>?_)
  rw[if_pos rfl]
  refine wpAny_bind (wpAny_bind (g2.go zt fun W7 yu s7 z7 L7 x7=>?_))
  have L67:=Lt.trans L7
  exact wpAny_bind (HI z7 el zz x7 (B.lD ((le.trans L6.le).trans L67.le)) fun _ W8 s8 z8 L8=>wpAny_pure (wpAny_pure (hturn _ s8 (Nat.lt_succ_self _) (.mk (k+1) W8 _ z8 (((z.2.1.trans L6).trans L67).trans L8) ((le.trans L6.le).trans (L67.le.trans L8.le)) ((((z.2.2 (B.I.nf _) g).ext L6.e).ext L67.e).ext L8.e) g3))))
 |skip i x g1 gt g3=>
  refine(draw _ i).item _ q.A _ x ?_
  intro h' t' u' hu g kp (tk:s'.toks≤t')
  have z:=lH (Ψ:=q.Φ (k+1)) Z' L' B.nb aw kp tk
  refine wpAny_bind (jK B.I.plain g (wpAny_bind (go z.1.a (g1 q.A W' _ q.cE u' z.1 hu) fun W5 _ s6 a6 L6 _=>?_)))
  dsimp only
  refine wpAny_bind (gt.go (z.1.next L6 a6) fun Wt st zt Lt=>?_)
  rw[if_neg Bool.false_ne_true]
  exact wpAny_pure ((hturn _ st (Nat.lt_succ_self _) (.mk (k+1) Wt _ zt ((z.2.1.trans L6).trans Lt) ((le.trans L6.le).trans Lt.le) (((z.2.2 (B.I.nf _) g).ext L6.e).ext Lt.e) g3)))
theorem Bs {q:CQ}{ob:Obj}(B:CoB q ob){m:Nat}{s':Shared}(h:CoI q m s'){R:Result→Shared→Prop}(hR:∀ W' s',At q.c q.n q.A W' q.hp2 s'→Lat q.W q.hp q.s W' q.hp2 s'→q.W4.le W'→R (.ok .next) s'):
  codeAny q.c.M q.A (.compLoop (.ListComp q.re [⟨q.rt,ri,q.ts,0⟩] scope pos) 0 (.ref q.it) (.ref q.dD) q.cE) R s':=by
 refine codeAny_loop rfl (CoI q) ?_ m h
 intro m s' h
 show wpAny _ q.A ((compTurn (.ListComp q.re [⟨q.rt,ri,q.ts,0⟩] scope pos) 0 (.ref q.it) (.ref q.dD) q.cE).onRaise (fun x=>do noteFrame x q.cE;theTreesLotGoes x)) _ _ s'
 exact wpAny_noted (wpAny_mono (E:=no) (Br B h hR fun m' s' lt h=>⟨rfl,m',lt,h⟩) (fun _ _ x=>x) fun _ _ f=>f.elim)
theorem x8 {use:Option (Value→Sem Unit)}{QQ:Value→Shared→Prop}(ok:ComOk scope ri F.cs)(z:AtF c sc n F hp A W s env)(h1:RE c sc n F hp ri v hp1)(hr:qN v=true)(hi:(cN v hp1).isSome=true)
  (h:sQ c (fB sc scope.names) n ⟨hp1.length+1,eJ F.cs (b5 scope.names),false⟩ rt ts re hp1.length v m 0 (hp1++[.lst [],.fr []]) hp2)
  (fin:∀ W' s' dD dC,ComE c n A W hp s hp1.length W' hp2 s' dD dC→compPost c.M A no use QQ (.ref dD) dC (.ok .next) s'):
  c.wp A (comprehension (.ListComp re [⟨rt,ri,ts,0⟩] scope pos) scope env (firstIterPos [⟨rt,ri,ts,0⟩] pos) (newList []) false (eval ri env) use) QQ s:=by
 obtain⟨cl,c1,c2,c3⟩:=mS (W:=W) z.f.cel (names:=scope.names) [] ok.caps fun x l _ q=>nomatch q
 refine wpAny_comprehension_free (use:=use) (g:=⟨rt,ri,ts,0⟩) (gs:=[]) rfl (ok.fold env) (vK c1) ok.kind ok.names (h1.go z fun W1 u s1 z1 L1 x1=>?_)
 refine(Option.isSome_iff_exists.mp hi).elim fun all e=>vH z1.a.le0 z1.a.rel x1 e hr fun ob Φ I=>?_
 have nn:=cO s1.heap
 have st0:=z1.a.rel.strange (ob:=ob)
 have nb:=eX L1.e nn
 refine wpAny_newObj_type ?_ (Nat.zero_le _)
 have z2:=st0.1.alloc (o:=.lst []) (ob:={cls:=.type "list",data:=.seq ([]:List Value).toArray}) (.mk [] 0 rfl)
 have z3:=z2.1.alloc (o:=.fr []) (ob:={cls:=.type "dict",data:=.dict #[]}) (.mk "dict" [] 0 rfl)
 rw[List.append_assoc]at z3
 have z3:Rel c.P _ (hp1++[.lst [],.fr []]) _∧Ext _ _ _ _ (hp1++[.lst [],.fr []]) _:=z3
 have E3:=(st0.2.trans z2.2).trans z3.2
 have ltL:hp1.length < (W1.push (s1.heap.push ob).objs.size).n:=z1.a.rel.len▸Nat.lt_succ_self _
 have Lr:(W1.push (s1.heap.push ob).objs.size).ρ hp1.length=(s1.heap.push ob).objs.size:=st0.1.push_at _
 generalize hD:(s1.heap.push ob).objs.size=dD at *
 generalize hh3:(s1.heap.push ob).push {cls:=.type "list",data:=.seq ([]:List Value).toArray}=h3 at *
 generalize hC:h3.objs.size=dC at *
 have Lc:((W1.push dD).push dC).ρ (hp1.length+1)=dC:=by
  have:=z2.1.push_at dC
  rwa [List.length_append]at this
 have Ll:((W1.push dD).push dC).ρ hp1.length=dD:=((Wd.le_push _ _).ρ _ ltL).trans Lr
 have ltC:hp1.length+1 < ((W1.push dD).push dC).n:=Nat.succ_lt_succ ltL
 generalize (W1.push dD).push dC=W3 at *
 simp only[newFunctionEnv,Option.isSome_some,if_true]
 refine bK (wpAny_alloc ?_)
 have CC:CelR W3 (eJ F.cs (b5 scope.names)) cl:=fun x l q=>have q:=vL q;have q2:=z.f.cel x l q.2
  ⟨Nat.lt_of_lt_of_le q2.1 (L1.le.trans E3.le).n,(c3 x l q.2 (c2 x (.inr q.1))).trans (q2.2.trans (congrArg some ((L1.le.trans E3.le).ρ _ q2.1).symm))⟩
 refine bK (wpAny_with_toks (n:=s1.toks) (Nat.le_refl _) (wpAny_mono (E:=no) (i0 (c:=c) (A:=A) _ (fun name kind cells=>by cases hkc:kind==NameKind.cell <;>simp[hkc]) scope.names cl (eJ F.cs (b5 scope.names)) (hp1++[.lst [],.fr []]) W3 _ z3.1 CC
  fun W4 ca s5 R4 L4 C4 tk=>?_) (fun _ _ x=>x) fun _ _ f=>f.elim))
 rw[ok.cell]at R4 L4 C4
 have R4:Rel c.P W4 (hp1++[.lst [],.fr []]) s5.heap:=R4
 have L4:Lat W3 (hp1++[.lst [],.fr []]) _ W4 (hp1++[.lst [],.fr []]) s5:=L4
 have C4:CelR W4 (eJ F.cs (b5 scope.names)) ca:=C4
 refine wpAny_pure ?_
 have F4:FrR W4 ⟨hp1.length+1,eJ F.cs (b5 scope.names),false⟩ {scope:=relabel scope env,locals:=h3.objs.size,globals:=env.globals,cells:=ca,qual:=env.qual,func:=none,code:=env.code,frame:=env.frame,builtins:=env.builtins}:=
  ⟨Nat.lt_of_lt_of_le ltC L4.le.n,hC.trans (Lc.symm.trans (L4.le.ρ _ ltC).symm),C4,ok.kind,z.f.glob,z.f.blt⟩
 generalize hcE:({scope:=relabel scope env,locals:=h3.objs.size,globals:=env.globals,cells:=ca,qual:=env.qual,func:=none,code:=env.code,frame:=env.frame,builtins:=env.builtins}:Env)=cE at F4
 have N4:cE.scope.names=fB sc scope.names:=by rw[← hcE];exact oD z.f.kind z.sc
 have L5:Lat W hp s W4 (hp1++[.lst [],.fr []]) s5:=(L1.trans (.of (t:=s1.toks) E3)).trans L4
 have L15:Lat W1 hp1 s1 W4 (hp1++[.lst [],.fr []]) s5:=(Lat.of (t:=s1.toks) E3).trans L4
 have Z5:AtF c (fB sc scope.names) n ⟨hp1.length+1,eJ F.cs (b5 scope.names),false⟩ (hp1++[.lst [],.fr []]) A W4 s5 cE:=⟨z1.a.next L15 R4 tk,F4,N4,fun q=>Bool.noConfusion q⟩
 have aw5:Away W4 (hp1++[.lst [],.fr []]) s5.heap s1.heap.objs.size (Φ 0):=
  Away.ext (h:=s1.heap.push ob) ⟨.mk ob (Heap.get?_push_size _ I.free) I.first,z1.a.rel.new_live,z1.a.rel.new_cold,I.nf 0⟩ ((z2.2.trans z3.2).trans L4.e)
 have nC:s.heap.get? dC=none:=hC▸eX ((L1.e.trans st0.2).trans z2.2) (cO h3)
 have lD:∀ {W':Wd},W4.le W'→W'.ρ hp1.length=dD:=fun le=>(le.ρ _ (Nat.lt_of_lt_of_le (Nat.lt_of_succ_lt ltC) L4.le.n)).trans ((L4.le.ρ _ (Nat.lt_of_succ_lt ltC)).trans Ll)
 have loop:codeAny c.M A (.compLoop (.ListComp re [⟨rt,ri,ts,0⟩] scope pos) 0 (.ref s1.heap.objs.size) (.ref dD) cE) (compPost c.M A no use QQ (.ref dD) dC) s5:=
  Bs (q:=⟨c,fB sc scope.names,n,⟨hp1.length+1,eJ F.cs (b5 scope.names),false⟩,rt,ts,re,hp1.length,v,hp2,A,W,hp,s,W1,W4,cE,s1.heap.objs.size,dD,Φ⟩) ⟨I,L15.le,nb,lD⟩ (.mk 0 W4 _ Z5 L5 (.refl _) aw5 h)
   fun W' s' a l le=>fin W' s' dD dC ⟨a,l,Nat.lt_of_lt_of_le ltC (L4.le.trans le).n,(le.ρ _ (Nat.lt_of_lt_of_le ltC L4.le.n)).trans ((L4.le.ρ _ ltC).trans Lc),lD le,nC⟩
 show codeAny c.M A (.compStart (.ListComp re [⟨rt,ri,ts,0⟩] scope pos) 0 (.ref s1.heap.objs.size) (.ref dD) cE) (compPost c.M A no use QQ (.ref dD) h3.objs.size) s5
 rw[hC]
 exact(by rcases aw5.ob with⟨o,ho,hΦ⟩;exact(I.plain 0 o hΦ).elim fun T P=>codeAny_compStart_list loop (wpAny_mono (P.self A s5 _ _ ⟨_,ho,P.cls⟩ loop) (fun _ _ x=>x) fun _ _ f=>f.elim))
theorem Bt {L:Nat}{W':Wd}{hp':List O}{s':Shared}{dC:Addr}{es:List (Nm×V)}{h'':Heap}(z:At c n A W' hp' s')(l:Lat W hp s W' hp' s')(lv:Lv hp' L (.fr es))(aC:W'.ρ L=dC)(nC:s.heap.get? dC=none)(sb:Heap.SameBut dC s'.heap h''):
  Rel c.P W' (hp'.set L .gone) h''∧Lat W hp s W' (hp'.set L .gone) {s' with heap:=h''}:=
 have q:=z.rel.forget L
 have nl:¬ Live W' (hp'.set L .gone) dC:=fun|.mk k o v e=>match v.set with
  |.inl ⟨_,e'⟩=>nomatch (e'▸v.v:O.live .gone=true)
  |.inr ⟨ne,y⟩=>ne (z.rel.inj _ _ _ _ y lv (e.trans aC.symm))
 ⟨q.1.poke nl (aC▸z.rel.cold _ _ lv) (aL sb),⟨(l.e.trans q.2).poke nC (aL sb),l.g,l.o⟩⟩
theorem Je {L:Nat}{W':Wd}{hp':List O}{h':Heap}{es:List (Nm×V)}(R:Rel c.P W' hp' h')(lv:Lv hp' L (.fr es)):∃ m,h'.Ns (W'.ρ L) m:=(by rcases R.fr lv with⟨_,en,k,g,E⟩;exact⟨fun y=>nsFind en.toArray y,_,en.toArray,k,g,rfl,E.skeys,fun _=>rfl⟩)
theorem lU {es:List (Nm×V)}(ok:ComOk scope ri F.cs)(h1:RE c sc n F hp ri v hp1)(hr:qN v=true)(hi:(cN v hp1).isSome=true)
  (h:sQ c (fB sc scope.names) n ⟨hp1.length+1,eJ F.cs (b5 scope.names),false⟩ rt ts re hp1.length v m 0 (hp1++[.lst [],.fr []]) hp2)(e:hp2[hp1.length+1]?.bind O.frE=some es):
  RE c sc n F hp (.ListComp re [⟨rt,ri,ts,0⟩] scope pos) (.ref hp1.length) (hp2.set (hp1.length+1) .gone):=fun A W s env z=>by
 show wpAny _ _ (eval _ env) _ _ _
 rw[eval_ListComp]
 exact x8 ok z h1 hr hi h fun W' s' dD dC E=>(Je E.a.rel (mG e)).elim fun m hm=>⟨m,E.aC▸hm,fun h'' sb=>have q:=Bt E.a E.l (mG e) E.aC E.nC sb
  .mk W' q.1 q.2 ⟨Nat.lt_of_succ_lt E.ltL,congrArg Value.ref E.aD.symm⟩⟩
noncomputable def jM (sc:aG)(y:Str)(px:Pos)(r:Expr):Bool:=if h:r.ctorIdx=8 then Expr.ListComp.elim (motive_1:=fun _=>Bool) r h fun _ _ scope p=>sc.lookup y==some .local&&px.line==p.line&& !(scope.names.any fun(n,k)=>n==y&&(k==.local||k==.cell))else false
theorem vP {y:Str}{px:Pos}{r:Expr}{l:Nat}(hf:env.scope.kind=.function)(hs:env.scope.names=sc)(h:jM sc y px r=true):swapsWith r (some (.Name y px)) l env=pure true:=by
 by_cases q:r.ctorIdx=8
 ·revert h
  refine Expr.ListComp.elim (motive_1:=fun r=>jM sc y px r=true→swapsWith r (some (.Name y px)) l env=pure true) r q fun a b scope p h=>?_
  have h:=Bool.and_eq_true_iff.mp h
  have h1:=Bool.and_eq_true_iff.mp h.1
  have e1:(env.blockKind==.function)=true:=by unfold Env.blockKind;rw[hf];rfl
  have e2:(env.kindOf y==some .local)=true:=by unfold Env.kindOf;rw[hs];exact h1.1
  unfold swapsWith
  dsimp only
  rw[show(Expr.ListComp a b scope p).pos=p from rfl,e1,e2,h1.2,h.2]
  rfl
 ·unfold jM at h
  rw[dif_neg q]at h
  cases h
theorem LY {es:List (Nm×V)}{y:Str}{px spos:Pos}{hp3:List O}(ok:ComOk scope ri F.cs)(h1:RE c sc n F hp ri v hp1)(hr:qN v=true)(hi:(cN v hp1).isSome=true)
  (h:sQ c (fB sc scope.names) n ⟨hp1.length+1,eJ F.cs (b5 scope.names),false⟩ rt ts re hp1.length v m 0 (hp1++[.lst [],.fr []]) hp2)(hw:jM sc y px (.ListComp re [⟨rt,ri,ts,0⟩] scope pos)=true)
  (hk:sc.lookup y=some .local)(t:eH F y.cps.toList (.ref hp1.length) hp2=some hp3)(e:hp3[hp1.length+1]?.bind O.frE=some es):
  RS c sc n F hp (.Assign [.Name y px] (.ListComp re [⟨rt,ri,ts,0⟩] scope pos) spos) .next (hp3.set (hp1.length+1) .gone):=fun A W s env z=>by
 show wpAny _ _ (exec _ env) _ _ _
 rw[exec_Assign_Name_used _ _ _ _ (vP z.f.kind z.sc hw)]
 refine bK (wpAny_standAt (bK ?_))
 show wpAny _ A (do let _ ← comprehension (.ListComp re [⟨rt,ri,ts,0⟩] scope pos) scope env _ (newList []) false (eval ri env) (some (assign (.Name y px) env))) _ _ s
 refine bK (wpAny_mono (x8 (QQ:=fun _ s'=>Post c c.FT W hp s .next (hp3.set (hp1.length+1) .gone) Flow.next s') ok z h1 hr hi h fun W' s' dD dC E=>?_) (fun _ s' p=>wpAny_pure (wpAny_pure p)) fun _ _ f=>f)
 show wpAny _ A (assign (.Name y px) env (.ref dD)) _ _ _
 refine go E.a (b0 (p:=px) hk t A W' s' env (.ref dD) ⟨E.a,z.f.mono E.l.le,z.sc,z.top⟩ ⟨Nat.lt_of_succ_lt E.ltL,congrArg Value.ref E.aD.symm⟩) fun W2 _ s2 a2 L2 _=>?_
 have aC:=(L2.le.ρ _ E.ltL).trans E.aC
 exact(Je a2.rel (mG e)).elim fun m hm=>⟨m,aC▸hm,fun h'' sb=>have q:=Bt a2 (E.l.trans L2) (mG e) aC E.nC sb
  .mk W2 q.1 q.2 rfl⟩
end
end
section
set_option genCtorIdx true in
inductive Pt where|o|a|b
noncomputable def Pt.nx:Pt→Pt
 |.a=>.b
 |_=>.o
structure GenT where
 t1:Expr
 t2:Expr
 e2:Expr
 t3:Expr
 e3:Expr
noncomputable def GenT.t (T:GenT):Pt→Expr
 |.a=>T.t2
 |_=>T.t3
noncomputable def GenT.e (T:GenT):Pt→Expr
 |.a=>T.e2
 |_=>T.e3
inductive PuS (c:Cx) (sc:aG) (n:Nat) (F:Fx) (T:GenT) (base:Nat) (Y:Pt→V→List O→Prop) (hpE:List O) (R:Pt→List O→Prop) (p:Pt) (hp:List O):Prop
 |stop {hp0 hp1:List O} (i:p=.o) (gc:Gc base hp hp0) (h:RB c sc n F hp0 T.t1 false hp1) (gc2:Gc base hp1 hpE)
 |go {hp0 hp1 hp2:List O} (i:p=.o) (gc:Gc base hp hp0) (h:RB c sc n F hp0 T.t1 true hp1) (gc2:Gc base hp1 hp2) (r:R .a hp2)
 |pass {hp1:List O} (i:p≠.o) (h:RB c sc n F hp (T.t p) false hp1) (r:R p.nx hp1)
 |yld {hp1 hp2:List O} {x:V} (i:p≠.o) (h:RB c sc n F hp (T.t p) true hp1) (e:RE c sc n F hp1 (T.e p) x hp2) (y:Y p x hp2)
noncomputable def vQ (c:Cx)(sc:aG)(n:Nat)(F:Fx)(T:GenT)(base:Nat)(Y:Pt→V→List O→Prop)(hpE:List O)(k:Nat):Pt→List O→Prop:=Nat.rec (fun _ _=>False) (fun _ R=>PuS c sc n F T base Y hpE R) k
inductive Cons (c:Cx) (sc:aG) (n:Nat) (F:Fx) (g:Expr) (body:List Stmt) (base:Nat) (x:V) (hp:List O) (P:List O→Prop):Prop
 |mk {fl:Fl} {hp1 hp2 hp3:List O} (h1:RG c sc n F hp g x hp1) (h2:RX c sc n F hp1 body fl hp2) (on:fl.on=true) (gc:Gc base hp2 hp3) (r:P hp3):Cons c sc n F g body base x hp P
section
variable {c:Cx}{gs:aG}{ng:Nat}{gF:Fx}{T:GenT}{base:Nat}(Cn:V→List O→(List O→Prop)→Prop)(hpE:List O)
noncomputable def Nx (c:Cx)(gs:aG)(ng:Nat)(gF:Fx)(T:GenT)(base:Nat):Nat→Pt→List O→Prop
 |0,p,hp=>∃ k,vQ c gs ng gF T base (fun _ _ _=>False) hpE k p hp
 |m+1,p,hp=>∃ k,vQ c gs ng gF T base (fun p x hp1=>Cn x hp1 (Nx c gs ng gF T base m p)) hpE k p hp
noncomputable def YM (c:Cx)(gs:aG)(ng:Nat)(gF:Fx)(T:GenT)(base:Nat):Nat→Pt→V→List O→Prop
 |0,_,_,_=>False
 |m+1,p,x,hp1=>Cn x hp1 (Nx Cn hpE c gs ng gF T base m p)
theorem Jf (m:Nat)(p:Pt)(hp:List O):Nx Cn hpE c gs ng gF T base m p hp=∃ k,vQ c gs ng gF T base (YM Cn hpE c gs ng gF T base m) hpE k p hp:=by
 cases m <;>rfl
end
structure FrOk (env:Env) (d u:Nat) (fs:List Frame):Prop where
 en:∀ e∈envsOf (fs.map Frame.where_),e=env
 sp:splitAtGen fs=none
 gd:fs.any Frame.guarded=false
 mks:(marksOver fs (none,none)).1=none
 dp:frameCount (fs.map Frame.where_)≤d
 un:PySem.unitsOf (fs.map Frame.where_)≤u
theorem FrOk.nil {env:Env}:FrOk env 0 0 []:=⟨fun _ m=>(nomatch m),rfl,rfl,rfl,Nat.le_refl _,Nat.le_refl _⟩
structure Lite (env:Env) (c:Code):Prop where
 e:∀ x∈c.envs,x=env
 w:c.weight≤2
 u:c.cUnits≤6
theorem FrOk.ret {env:Env}{d u:Nat}{fs:List Frame}(h:FrOk env d u fs){k l c p kp}(hc:Lite env c):FrOk env (d+2) (u+6) (.ret k none false l c p kp::fs):=
 ⟨fun e m=>(List.mem_append.mp ((envsOf_cons c p (fs.map Frame.where_):envsOf ((c,p)::fs.map Frame.where_)=_)▸m:e∈c.envs++envsOf (fs.map Frame.where_))).elim (hc.e e) (h.en e),by show(splitAtGen fs).map _=none;rw[h.sp];rfl,h.gd,h.mks,
  by show frameCount ((c,p)::fs.map Frame.where_)≤_;rw[frameCount_cons];have:=h.dp;have:=hc.w;lia,
  by show PySem.unitsOf ((c,p)::fs.map Frame.where_)≤_;rw[unitsOf_cons];have:=h.un;have:=hc.u;lia⟩
theorem FrOk.room {env:Env}{n:Nat}{fs:List Frame}{A:Around}{c:Code}(h:FrOk env 4 12 fs)(ro:Room (n+3) A)(hc:Lite env c):Room n (A.over c fs):=
 ⟨by show(marksOver fs (A.handled,A.handled)).1=none;rw[ro.hd];exact h.mks,
  by show A.depth+frameCount (fs.map Frame.where_)+c.weight+10*n≤900;have:=h.dp;have:=ro.dp;have:=hc.w;lia,
  by show A.units+PySem.unitsOf (fs.map Frame.where_)+c.cUnits+20*n≤9000;have:=h.un;have:=ro.un;have:=hc.u;lia⟩
theorem Fs.over {env:Env}{d u:Nat}{fs:List Frame}{A:Around}{H:Heap}{c:Code}(h:FrOk env d u fs)(hc:Lite env c)(f:FrAt H env):Fs A H→Fs (A.over c fs) H
 |.mk l e a=>.mk (c.envs++(envsOf (fs.map Frame.where_)++l)) (by show pushEnvs _ (pushEnvs _ A.frames)=_;rw[pushEnvs_eq,pushEnvs_eq,e];rfl) fun x m=>(List.mem_append.mp m).elim (fun q=>(hc.e x q).symm▸f) fun m=>(List.mem_append.mp m).elim (fun q=>(h.en x q).symm▸f) (a x)
theorem FrOk.up {env:Env}{d u d' u':Nat}{fs:List Frame}(h:FrOk env d u fs)(a:d≤d')(b:u≤u'):FrOk env d' u' fs:=⟨h.en,h.sp,h.gd,h.mks,Nat.le_trans h.dp a,Nat.le_trans h.un b⟩
theorem jN {t:Expr}{b o:List Stmt}{env:Env}:Lite env (Code.whileLoop t b o env):=⟨fun x m=>(nomatch (m:x∈([]:List Env))),Nat.le_of_ble_eq_true rfl,Nat.le_of_ble_eq_true rfl⟩
theorem Bu {b:List Stmt}{env:Env}:Lite env (Code.func b env):=⟨fun x m=>List.mem_singleton.mp (m:x∈[env]),Nat.le_of_ble_eq_true rfl,Nat.le_of_ble_eq_true rfl⟩
structure GenX where
 s1:Stmt
 t:GenT
 p1:Pos
 p2:Pos
 p3:Pos
 pe:Pos
 py:Pos
 qe:Pos
 qy:Pos
noncomputable def GenX.y (G:GenX):Pt→List Stmt
 |.a=>[.Expr (.Yield (some G.t.e2) G.qy) G.qe]
 |_=>[.Expr (.Yield (some G.t.e3) G.py) G.pe]
noncomputable def GenX.w3 (G:GenX):List Stmt:=[.While G.t.t3 (G.y .b) [] G.p3]
noncomputable def GenX.w (G:GenX):List Stmt:=.While G.t.t2 (G.y .a) [] G.p2::G.w3
noncomputable def GenX.b (G:GenX):List Stmt:=[G.s1,.While G.t.t1 G.w [] G.p1]
structure GQ where
 c:Cx
 gs:aG
 ng:Nat
 gf:Nat
 X:GenX
 Cn:V→List O→(List O→Prop)→Prop
 hpE:List O
 Wi:Wd
 hpi:List O
 si:Shared
 env:Env
noncomputable def GQ.F (q:GQ):Fx:=⟨q.gf,[],false⟩
structure GI (q:GQ) (W:Wd) (hp:List O) (s₀ s:Shared):Prop where
 r:Rel q.c.P W hp s.heap
 t:0<s.toks
 e:Ext q.Wi q.hpi q.si.heap W hp s.heap
 g:GenS s₀.gens s.gens
 o:s.os=s₀.os
structure GB (q:GQ) (A:Around):Prop where
 fs:Fs A q.si.heap
 fe:FrAt q.si.heap q.env
 b:Rel q.c.P q.Wi q.hpi q.si.heap
 k:∀ a o,q.c.K.lookup a=some o→q.Wi.fz a=some o
 f0:FrR q.Wi q.F q.env
 hn:q.env.scope.names=q.gs
 hco:q.env.scope.isCoroutine=false
 hia:interactive q.env=false
noncomputable def GQ.PL (q:GQ)(m k:Nat)(p:Pt)(hp:List O):Prop:=vQ q.c q.gs q.ng q.F q.X.t q.hpi.length (YM q.Cn q.hpE q.c q.gs q.ng q.F q.X.t q.hpi.length m) q.hpE k p hp
noncomputable def GQ.NX (q:GQ)(m:Nat)(p:Pt)(hp:List O):Prop:=Nx q.Cn q.hpE q.c q.gs q.ng q.F q.X.t q.hpi.length m p hp
theorem GQ.nx {q:GQ}{m:Nat}{p:Pt}{hp:List O}(h:q.NX m p hp):∃ k,q.PL m k p hp:=(Jf q.Cn q.hpE m p hp).mp h
section
variable {q:GQ}{A:Around}
theorem GI.at {W:Wd}{hp:List O}{s₀ s:Shared}(b:GB q A)(g:GI q W hp s₀ s){n:Nat}{c:Code}{fs:List Frame}(fo:FrOk q.env 4 12 fs)(hc:Lite q.env c)(ro:Room (n+3) A):AtF q.c q.gs n q.F hp (A.over c fs) W s q.env:=⟨⟨fo.room ro hc,g.r,fun a o e=>g.e.le.fz a o (b.k a o e),g.t,.over fo hc (b.fe.ext g.e) (b.fs.ext g.e)⟩,b.f0.mono g.e.le,b.hn,fun q=>Bool.noConfusion q⟩
theorem GI.step {W W':Wd}{hp hp':List O}{s₀ s s':Shared}{n:Nat}{A:Around}(g:GI q W hp s₀ s)(z:At q.c n A W' hp' s')(L:Lat W hp s W' hp' s'):GI q W' hp' s₀ s':=
 ⟨z.rel,z.tk,g.e.trans L.e,g.g.trans L.g,L.o.trans g.o⟩
theorem GI.drop {W:Wd}{hp hp':List O}{s₀ s:Shared}(b:GB q A)(g:GI q W hp s₀ s)(x:Gc q.hpi.length hp hp'):∃ W',GI q W' hp' s₀ s:=by
 cases x with
 |id=>exact⟨W,g⟩
 |fold e=>exact(by rcases i5 (u:=.none) (v:=.dat .non) (b.b.len.symm▸e:gJ q.Wi.n _ _ (.dat .non) hp=_) (.mk W g.r g.e rfl fun _ n z=>⟨n,z⟩)with⟨W3,R,E,_,C⟩;exact⟨W3,R,g.t,E,g.g,g.o⟩)
inductive GYi (q:GQ) (m:Nat) (s₀:Shared) (v:Value) (s₁:Shared) (kap:Resume→Shared→Prop):Prop
 |mk (W1:Wd) (hp1:List O) (x:V) (p:Pt) (gi:GI q W1 hp1 s₀ s₁) (xv:VR q.c.P W1 x v) (cn:q.Cn x hp1 (q.NX m p))
   (k:∀ s'' W'' hp'',GI q W'' hp'' s'' s''→q.NX m p hp''→kap (.send .none) s'')
noncomputable def GY (q:GQ):Protocol:=fun m s₀ v s₁ kap=>GYi q m s₀ v s₁ kap
noncomputable def GR (q:GQ):GenEnd:=fun _ s₀ r s₁=>r=.ok (.ret .none)∧∃ W1,GI q W1 q.hpE s₀ s₁
noncomputable abbrev GQ.Sg (q:GQ)(A:Around)(m:Nat)(s₀:Shared)(cd:Code)(t:Sem Fin)(fs:List Frame)(s:Shared):Prop:=Seg q.c.M A (GR q) (GY q) m s₀ cd t fs s
noncomputable def GQ.yl (q:GQ)(p:Pt):Code:=.whileLoop (q.X.t.t p) (q.X.y p) [] q.env
noncomputable def GQ.ol (q:GQ):Code:=.whileLoop q.X.t.t1 q.X.w [] q.env
theorem Bv {p:Prop}{a b:Prop} [Decidable p] (h:¬ p)(x:b):if p then a else b:=by rw[if_neg h];exact x
theorem Bw {p:Prop}{a b:Prop} [Decidable p] (h:p)(x:a):if p then a else b:=by rw[if_pos h];exact x
noncomputable def LZ (q:GQ)(A:Around)(p:Pt)(m:Nat):Prop:=∀ (k:Nat) (fs:List Frame),FrOk q.env 4 12 fs→
 (∀ m' k',(m'<m∨(m'=m∧k'<k))→∀ W hp s₀ s,GI q W hp s₀ s→q.PL m' k' p.nx hp→q.Sg A m' s₀ (q.yl p) (leafOf (.ok .next)) fs s)→
 ∀ W hp s₀ s,GI q W hp s₀ s→q.PL m k p hp→q.Sg A m s₀ (q.yl p) (q.c.M.den (q.yl p)) fs s
theorem Bx (b:GB q A){p:Pt}{m:Nat}{fs:List Frame}{n:Nat}{s₀ s:Shared}{K:Flow→Sem Fin}{H:Value→Sem Fin}{lv:List Value→List Value}{x:V}{W:Wd}{hp hp2:List O}(fo:FrOk q.env 4 12 fs)(z:AtF q.c q.gs n q.F hp (A.over (q.yl p) fs) W s q.env)(g:GI q W hp s₀ s)
  (e:RE q.c q.gs n q.F hp (q.X.t.e p) x hp2)(hp0:p≠.o)(y:q.Cn x hp2 (q.NX m p))(h:∀ s'' W'' hp'',GI q W'' hp'' s'' s''→q.NX m p hp''→q.Sg A m s'' (q.yl p) (K .next) fs s''):
  q.Sg A (m+1) s₀ (q.yl p) ((execs (q.X.y p) q.env).wrap K H id lv) fs s:=by
 have go:∀ ex py pe,q.X.y p=[.Expr (.Yield (some ex) py) pe]→q.X.t.e p=ex→q.Sg A (m+1) s₀ (q.yl p) ((execs (q.X.y p) q.env).wrap K H id lv) fs s:=fun ex py pe h1 h2=>by
  rw[h1]
  refine seg_execs_cons (seg_Expr_Yield fo.sp rfl fo.gd (wpAny_mono ((h2▸e).go z fun W2 v s2 z2 L2 x2=>fun kap hk=>?_) (fun _ _ x=>x) fun _ _ f=>f.elim) b.hco b.hia)
  exact .mk W2 _ _ p (g.step z2.a L2) x2 y fun s'' W'' hp'' g'' nx=>hk .none s'' (seg_execs_nil (h s'' W'' hp'' g'' nx))
 cases p with
 |o=>exact absurd rfl hp0
 |a=>exact go _ _ _ rfl rfl
 |b=>exact go _ _ _ rfl rfl
theorem sR (b:GB q A)(ro:Room (q.ng+3) A){p:Pt}(hp0:p≠.o)(m:Nat)(ih:∀ m',m=m'+1→LZ q A p m'):LZ q A p m:=fun k fs fo hl W hp s₀ s g h=>by
 have z:AtF q.c q.gs q.ng q.F hp (A.over (q.yl p) fs) W s q.env:=g.at b fo jN ro
 cases k with
 |zero=>exact(h:False).elim
 |succ k=>
 cases(h:PuS ..)with
 |stop i _ _ _=>exact absurd i hp0
 |go i _ _ _ _=>exact absurd i hp0
 |pass _ h r=>exact seg_whileLoop (wpAny_mono (h.go z (Z:=fun b s'=>if b=true then _ else _) fun W1 b s1 z1 L1 x1=>Bv (by rw[show b=false from x1];exact Bool.false_ne_true) (seg_execs_nil (hl m _ (.inr ⟨rfl,Nat.lt_succ_self _⟩) W1 _ s₀ s1 (g.step z1.a L1) r))) (fun _ _ x=>x) fun _ _ f=>f.elim)
 |yld _ h e y=>cases m with
  |zero=>exact(y:False).elim
  |succ m=>exact seg_whileLoop (wpAny_mono (h.go z (Z:=fun b s'=>if b=true then _ else _) fun W1 t s1 z1 L1 x1=>Bw x1 (Bx b fo z1 (g.step z1.a L1) e hp0 y fun s'' W'' hp'' g'' nx=>
    seg_again rfl ((GQ.nx nx).elim fun k' nx=>ih m rfl k' fs fo (fun m' k2 hm=>hl m' k2 (.inl (hm.elim Nat.lt_succ_of_lt fun x=>x.1▸Nat.lt_succ_self _))) W'' hp'' s'' s'' g'' nx))) (fun _ _ x=>x) fun _ _ f=>f.elim)
theorem o9 (b:GB q A)(ro:Room (q.ng+3) A){p:Pt}(hp0:p≠.o)(m:Nat):LZ q A p m:=by
 induction m with
 |zero=>exact sR b ro hp0 0 nofun
 |succ m ih=>exact sR b ro hp0 (m+1) fun m' e=>Nat.succ.inj e▸ih
noncomputable def HJ (q:GQ)(A:Around)(fs:List Frame)(m k:Nat):Prop:=∀ W hp s₀ s,GI q W hp s₀ s→q.PL m k .o hp→q.Sg A m s₀ q.ol (q.c.M.den q.ol) fs s
theorem By (b:GB q A)(ro:Room (q.ng+3) A){fs:List Frame}(fo:FrOk q.env 2 6 fs){m k:Nat}(ih:∀ m' k',(m'<m∨(m'=m∧k'<k+1))→HJ q A fs m' k'){W:Wd}{hp:List O}{s₀ s:Shared}(g:GI q W hp s₀ s)(r:q.PL m k .a hp){K:Flow→Sem Fin}{H:Value→Sem Fin}{lv:List Value→List Value}(hK:K .next=.pure (.again q.ol)):
  q.Sg A m s₀ q.ol ((execs q.X.w q.env).wrap K H id lv) fs s:=by
 refine seg_execs_cons (seg_While fun p=>?_)
 refine o9 (p:=.a) b ro nofun m _ _ (fo.ret jN) (fun m' k' hm W' hp' s₀' s' g' q'=>?_) W _ s₀ s g r
 refine seg_leaf (.ok .next) ?_
 show Seg _ _ _ _ _ _ _ ((execs q.X.w3 q.env).wrap _ _ _ _) _ _
 refine seg_execs_cons (seg_While fun p'=>?_)
 refine o9 (p:=.b) b ro nofun m' k' _ (fo.ret jN) (fun m2 k2 hm2 W3 hp3 s₀2 s2 g3 q3=>?_) W' hp' s₀' s' g' q'
 refine seg_leaf (.ok .next) ?_
 show Seg _ _ _ _ _ _ _ ((execs [] q.env).wrap _ _ _ _) _ _
 refine seg_execs_nil ?_
 show Seg _ _ _ _ _ _ _ ((execs [] q.env).wrap K H id lv) _ _
 refine seg_execs_nil ?_
 rw[hK]
 exact seg_again rfl (ih m2 k2 (by lia) W3 hp3 s₀2 s2 g3 q3)
theorem Bz (b:GB q A)(ro:Room (q.ng+3) A){fs:List Frame}(fo:FrOk q.env 2 6 fs)(hend:∀ m W s₀ s,GI q W q.hpE s₀ s→q.Sg A m s₀ q.ol (leafOf (.ok .next)) fs s){m k:Nat}(ih:∀ m' k',(m'<m∨(m'=m∧k'<k))→HJ q A fs m' k'):HJ q A fs m k:=fun W hp s₀ s g h=>by
 have fo4:FrOk q.env 4 12 fs:=fo.up (by decide) (by decide)
 cases k with
 |zero=>exact(h:False).elim
 |succ k=>
 cases(h:PuS ..)with
 |pass i _ _=>exact absurd rfl i
 |yld i _ _ _=>exact absurd rfl i
 |stop _ gc h gc2=>
  obtain⟨W0,g⟩:=g.drop b gc
  exact seg_whileLoop (wpAny_mono (h.go (g.at (c:=q.ol) b fo4 jN ro) (Z:=fun b s'=>if b=true then _ else _) fun W1 t s1 z1 L1 x1=>Bv (by rw[show t=false from x1];exact Bool.false_ne_true) (((g.step z1.a L1).drop b gc2).elim fun W2 g2=>seg_execs_nil (hend m W2 s₀ s1 g2))) (fun _ _ x=>x) fun _ _ f=>f.elim)
 |go _ gc h gc2 r=>
  obtain⟨W0,g⟩:=g.drop b gc
  exact seg_whileLoop (wpAny_mono (h.go (g.at (c:=q.ol) b fo4 jN ro) (Z:=fun b s'=>if b=true then _ else _) fun W1 t s1 z1 L1 x1=>Bw x1 (((g.step z1.a L1).drop b gc2).elim fun W2 g2=>By b ro fo ih g2 r rfl)) (fun _ _ x=>x) fun _ _ f=>f.elim)
theorem AC (b:GB q A)(ro:Room (q.ng+3) A){fs:List Frame}(fo:FrOk q.env 2 6 fs)(hend:∀ m W s₀ s,GI q W q.hpE s₀ s→q.Sg A m s₀ q.ol (leafOf (.ok .next)) fs s):∀ m k,HJ q A fs m k:=by
 intro m
 induction m using Nat.strongRecOn with
 |ind m ihm=>
  intro k
  induction k using Nat.strongRecOn with
  |ind k ihk=>exact Bz b ro fo hend fun m' k' h=>h.elim (fun x=>ihm m' x k') fun x=>x.1.symm▸ihk k' x.2
theorem AD (b:GB q A)(ro:Room (q.ng+3) A){m k:Nat}{W:Wd}{hp hp1:List O}{s:Shared}(g:GI q W hp s s)(h0:RS q.c q.gs q.ng q.F hp q.X.s1 .next hp1)(h:q.PL m k .o hp1):q.Sg A m s (.func q.X.b q.env) (q.c.M.den (.func q.X.b q.env)) [] s:=by
 refine seg_func (seg_execs_cons (seg_wrap (wpAny_mono (h0.go (g.at (c:=.func q.X.b q.env) (fs:=[]) b (FrOk.nil.up (Nat.zero_le _) (Nat.zero_le _)) Bu ro) fun W1 f s1 z1 L1 x1=>?_) (fun _ _ x=>x) fun _ _ f=>f.elim)))
 rw[show f=.next from x1]
 refine seg_execs_cons (seg_While fun p=>?_)
 refine AC b ro (FrOk.nil.ret Bu) (fun m' W' s₀' s' g'=>?_) m k W1 _ s s1 (g.step z1.a L1) h
 refine seg_leaf (.ok .next) ?_
 show Seg _ _ _ _ _ _ _ ((execs [] q.env).wrap _ _ _ _) _ _
 exact seg_execs_nil (seg_end (.ok (.ret .none)) ⟨rfl,W',g'⟩)
end
end
section
noncomputable def CA:Nm:=[95,95,105,116,101,114,95,95]
theorem HK:st CA=("__iter__" :Str):=by decide+kernel
noncomputable def eK:Nm:=Xv
section
variable {M:Model}{A:Around}{E:Value→Shared→Prop}{s:Shared}{K:Frag}{x C f:Addr}{ox:Obj}{od:Option Obj}
theorem CB {Q:Value→Shared→Prop}(X:K.In s.heap)(I:PySem.W.InstAt s.heap x ox C od)(hs:findIn K (.ref C) "__iter__" =some (some (.ref f)))(hf:typeIn K (.ref f)=some (.type "function"))
  (h:wpAny M A (call (.ref f) [.ref x]) (fun v s'=>wpAny M A (specialOf v "__next__") (fun r s₂=>r≠none∧Q v s₂) E s') E s):wpAny M A (pyIter (.ref x)) Q E s:=by
 have mid:wpAny M A (do let v ← call (.ref f) [.ref x];pure (some v)) (fun r s'=>∃ v,r=some v∧wpAny M A (specialOf v "__next__") (fun r s₂=>r≠none∧Q v s₂) E s') E s:=
  bK (wpAny_mono h (fun v s' q=>wpAny_pure ⟨v,rfl,q⟩) fun _ _ z=>z)
 have asked:∀ refuse:Sem Value,wpAny M A (callSpecialIfBoundUnlessNone? (.ref x) "__iter__" refuse) (fun r s'=>∃ v,r=some v∧wpAny M A (specialOf v "__next__") (fun r s₂=>r≠none∧Q v s₂) E s') E s:=by
  intro refuse
  unfold callSpecialIfBoundUnlessNone?
  simp only[bindSpecialIfBound?]
  refine wpAny_holding (bK (bK (bK (I.type.here ((looks_findIn X hs).here ?_)))))
  have go:wpAny M A (if(Value.ref f==Value.none)=true then(refuse >>= fun v=>pure (some v))else(do let v ← call (.ref f) [.ref x];pure (some v))) (fun r s'=>∃ v,r=some v∧wpAny M A (specialOf v "__next__") (fun r s₂=>r≠none∧Q v s₂) E s') E s:=by
   rw[if_neg (by exact Bool.false_ne_true)]
   exact mid
  refine bK (wpAny_askSetting (wpAny_ite ?_))
  split
  ·exact bK ((bind_fn X _ hf).here (wpAny_pure (by exact go)))
  ·exact wpAny_tryCatch (bK ((bind_fn X _ hf).here (wpAny_pure (by exact go))))
 unfold pyIter
 refine bK (bK (I.type.here ((looks_findIn X hs).here ?_)))
 show wpAny M A (callSpecialIfBoundUnlessNone? (.ref x) "__iter__" _ >>= _) Q E s
 refine bK (wpAny_mono (asked _) (fun r s' hr=>?_) fun _ _ z=>z)
 obtain⟨v,rfl,hv⟩:=hr
 refine bK (wpAny_mono hv (fun r s₂ hr=>?_) fun _ _ z=>z)
 cases r with
 |none=>exact absurd rfl hr.1
 |some _=>exact wpAny_pure hr.2
end
structure GenI (K:Frag) (fd:FuncData) (ns:aG) (body:List Stmt):Prop where
 code:codeIn K fd.code fd.qualname=true
 body:fd.body=.stmts body
 clo:fd.closure=[]
 glob:fd.globals=mainGlobals
 blt:fd.builtins=builtinsNs
 co:fd.scope.isCoroutine=false
 gen:fd.scope.isGenerator=true
 kind:fd.scope.kind=.function
 names:fd.scope.names=ns
 cells:b8 ns=[]
 self:ns.lookup (st eK)=some .local
inductive GenD (K:Frag) (a:Addr) (names:aG) (body:List Stmt):Prop
 |mk (o:Obj) (fd:FuncData) (at_:K.lookup a=some o) (d:o.data=.func fd) (i:GenI K fd names body) (bind:∀ (s:Shared) (v:Value),K.In s.heap→BindsTo s fd ⟨[v],[]⟩ [(st eK,v)])
theorem pA {s:Shared}{g:Nat}{x:GenState}(h:g<s.gens.size):(s.setGen g x).gens[g]? =some x:=by
 unfold Shared.setGen;simp[h]
theorem pB {s:Shared}{g i:Nat}{x:GenState}(h:i≠g):(s.setGen g x).gens[i]? =s.gens[i]? :=Array.getElem?_setIfInBounds_ne (Ne.symm h)
theorem sS {s:Shared}{g:Nat}{x:GenState}:(s.setGen g x).gens.size=s.gens.size:=Array.size_setIfInBounds ..
structure GenG (s s':Shared) (g:Nat):Prop where
 le:s.gens.size≤g
 lt:g<s'.gens.size
 keep:∀ i,i<s.gens.size→s'.gens[i]? =s.gens[i]?
 bare:∀ i z,s.gens.size≤i→i≠g→s'.gens[i]? =some z→z.bare=true
theorem GenG.set {s s':Shared}{g:Nat}{z:GenState}(h:GenG s s' g):GenG s (s'.setGen g z) g:=
 ⟨h.le,by rw[sS];exact h.lt,fun i hi=>(pB (Nat.ne_of_lt (Nat.lt_of_lt_of_le hi h.le))).trans (h.keep i hi),fun i z' hi hn e=>h.bare i z' hi hn ((pB hn).symm.trans e)⟩
theorem GenG.step {s s' s'':Shared}{g:Nat}(h:GenG s s' g)(S:GenS s'.gens s''.gens):GenG s s'' g:=
 ⟨h.le,Nat.lt_of_lt_of_le h.lt S.size,fun i hi=>(S.keep i (Nat.lt_trans (Nat.lt_of_lt_of_le hi h.le) h.lt)).trans (h.keep i hi),fun i z hi hn e=>
  (Nat.lt_or_ge i s'.gens.size).elim (fun q=>h.bare i z hi hn ((S.keep i q).symm.trans e)) fun q=>S.bare i z q e⟩
theorem GenG.done {s s':Shared}{g:Nat}(h:GenG s s' g)(e:s'.gens[g]? =some .finished):GenS s.gens s'.gens:=
 ⟨Nat.le_of_lt (Nat.lt_of_le_of_lt h.le h.lt),h.keep,fun i z hi e'=>(Classical.em (i=g)).elim (fun q=>by rw[q,e]at e';cases e';rfl) fun q=>h.bare i z hi q e'⟩
theorem GenG.new {s s2 s3:Shared}{x:GenState}(S:GenS s.gens s2.gens)(e:s3.gens=s2.gens.push x):GenG s s3 s2.gens.size:=
 ⟨S.size,by rw[e,Array.size_push];exact Nat.lt_succ_self _,fun i hi=>by
  have q:=Nat.lt_of_lt_of_le hi S.size
  rw[e,Array.getElem?_push_lt q,← Array.getElem?_eq_getElem q];exact S.keep i hi,fun i z hi hn h=>by
  rw[e]at h
  by_cases q:i<s2.gens.size
  ·rw[Array.getElem?_push_lt q,← Array.getElem?_eq_getElem q]at h
   exact S.bare i z hi h
  ·rw[Array.getElem?_eq_none (by rw[Array.size_push];lia)]at h;cases h⟩
theorem Rel.grown {P:Params}{W:Wd}{hp:List O}{h h':Heap}(R:Rel P W hp h)(hk:∀ b o,h.get? b=some o→h'.get? b=some o):Rel P W hp h'∧Ext W hp h W hp h':=
 ⟨R.via (k:=id) R.len (fun a o e=>hk _ _ (R.fz a o e)) R.nf (fun _ o v=>.mk o v rfl ((R.obj _ _ v).imp (fun _=>hk _ _) fun _=>id) (R.cold _ _ v)) fun _ _ _ _=>id,
  .refl W,fun a o e=>⟨fun _=>.here (hk a o e),id,.here (hk a o e),fun _=>.inl⟩⟩
structure EnvG (W:Wd) (H:Heap) (gf:Nat) (gs:aG) (env:Env):Prop where
 fe:FrAt H env
 f:FrR W ⟨gf,[],false⟩ env
 n:env.scope.names=gs
 co:env.scope.isCoroutine=false
theorem AE (hp1:List O)(l:Nat):w7 ⟨hp1.length,[],false⟩ [eK] [.ref l] (hp1++[.fr []])=some (hp1++[.fr [(eK,.ref l)]]):=by
 show(((hp1++[O.fr []])[hp1.length]?.bind O.frE).map fun es=>(hp1++[O.fr []]).set hp1.length (.fr (pt es eK (.ref l)))).bind _=_
 rw[List.getElem?_concat_length]
 show some ((hp1++[O.fr []]).set hp1.length (.fr [(eK,.ref l)]))=_
 rw[List.set_append_right hp1.length _ (Nat.le_refl _),Nat.sub_self]
 rfl
inductive LpI (q:GQ) (A:Around) (g:Nat) (s:Shared) (m:Nat) (s':Shared):Prop
 |mk (W':Wd) (hp':List O) (gst:GenState) (gi:GI q W' hp' s' s') (os:s'.os=s.os) (gg:GenG s s' g) (at_:s'.gens[g]? =some gst) (goes:gst.Goes q.c.M A.in1 (GR q) (GY q) m (.send .none) (s'.setGen g .running)):LpI q A g s m s'
structure LpB (q:GQ) (A:Around) (sc:aG) (n:Nat) (F:Fx) (y:Str) (px:Pos) (rb:List Stmt) (W:Wd) (hp:List O) (s:Shared) (env:Env) (ga:Addr) (g:Nat):Prop where
 b:GB q A.in1
 z:AtF q.c sc n F hp A W s env
 E:Ext W hp s.heap q.Wi q.hpi q.si.heap
 isg:∀ W' hp' h,q.Wi.le W'→Rel q.c.P W' hp' h→h.IsGen ga g
 cn:q.Cn=Cons q.c sc n F (.Name y px) rb q.hpi.length
section
variable {q:GQ}{A:Around}{sc:aG}{n:Nat}{F:Fx}{y:Str}{px:Pos}{rb:List Stmt}{W:Wd}{hp:List O}{s:Shared}{env:Env}{ga:Addr}{g:Nat}
theorem LpB.at (B:LpB q A sc n F y px rb W hp s env ga g){W':Wd}{hp':List O}{s₀ s':Shared}(gi:GI q W' hp' s₀ s')(gs:GenState):AtF q.c sc n F hp' A W' (s'.setGen g gs) env:=
 ⟨⟨B.z.a.room,gi.r,fun a o e=>gi.e.le.fz a o (B.b.k a o e),gi.t,(B.z.a.fs.ext B.E).ext gi.e⟩,B.z.f.mono (B.E.le.trans gi.e.le),B.z.sc,B.z.top⟩
theorem vR (B:LpB q A sc n F y px rb W hp s env ga g){mm:Nat}{s' s5 s7:Shared}{gs5:GenState}{W5 W7:Wd}{hp5 hp7 hp8:List O}{p:Pt}(gg:GenG s s' g)(os:s'.os=s.os)(gi5:GI q W5 hp5 (s'.setGen g .running) s5)
  (kp:∀ s'' W'' hp'',GI q W'' hp'' s'' s''→q.NX (mm-1) p hp''→(match mm with|0=>False|m+1=>gs5.Goes q.c.M A.in1 (GR q) (GY q) m (.send .none) s''))
  (z7:At q.c n A W7 hp7 s7)(L:Lat W5 hp5 (s5.setGen g gs5) W7 hp7 s7)(gc:Gc q.hpi.length hp7 hp8)(r:q.NX (mm-1) p hp8):∃ m,m<mm∧LpI q A g s m s7:=by
 have lt5:g<s5.gens.size:=Nat.lt_of_lt_of_le (gg.set (z:=.running)).lt gi5.g.size
 have GG5:GenG s (s5.setGen g gs5) g:=((gg.set (z:=.running)).step gi5.g).set
 obtain⟨W8,gi8⟩:=GI.drop (s₀:=s7) B.b ⟨z7.rel,z7.tk,gi5.e.trans L.e,.refl _,rfl⟩ gc
 have kq:=kp (s7.setGen g .running) W8 _ ⟨gi8.r,gi8.t,gi8.e,.refl _,rfl⟩ r
 cases mm with
 |zero=>exact kq.elim
 |succ mm=>exact⟨mm,Nat.lt_succ_self _,.mk W8 _ gs5 gi8 (L.o.trans (gi5.o.trans os)) (GG5.step L.g) ((L.g.keep _ GG5.lt).trans (pA lt5)) kq⟩
theorem CD (B:LpB q A sc n F y px rb W hp s env ga g){mm:Nat}{s' s5:Shared}{gs5:GenState}{v:Value}{Q:Flow→Shared→Prop}{E1 E2:Value→Shared→Prop}(gg:GenG s s' g)(os:s'.os=s.os)
  (hy:GYi q (mm-1) (s'.setGen g .running) v s5 fun r' s''=>match mm with|0=>False|m+1=>gs5.Goes q.c.M A.in1 (GR q) (GY q) m r' s'')
  (hQ:∀ s3 f,(f=.next∨f=.cont)→(∃ m,m<mm∧LpI q A g s m s3)→Q f s3):wpAny q.c.M A (assign (.Name y px) env v) (fun _ s₂=>wpAny q.c.M A (execs rb env) Q E2 s₂) E1 (s5.setGen g gs5):=
 match hy with
 |.mk W5 hp5 x p gi5 xv cn kp=>match(B.cn▸cn:Cons q.c sc n F (.Name y px) rb q.hpi.length x hp5 (q.NX (mm-1) p))with
  |.mk g1 g2 on gc r=>wpAny_mono (go (B.at gi5 gs5).a (g1 A W5 _ env v (B.at gi5 gs5) xv) fun W6 _ s6 a6 L6 _=>
    wpAny_mono (g2.go ((B.at gi5 gs5).next L6 a6) fun W7 f s7 z7 L7 x7=>hQ s7 f (Bo x7 on) (vR B gg os gi5 kp z7.a (L6.trans L7) gc r)) (fun _ _ z=>z) fun _ _ f=>f.elim) (fun _ _ z=>z) fun _ _ f=>f.elim
theorem CG (B:LpB q A sc n F y px rb W hp s env ga g){R:Result→Shared→Prop}(hR:∀ W5 s',Rel q.c.P W5 q.hpE s'.heap→Lat W hp s W5 q.hpE s'→R (.ok .next) s'){m:Nat}{s0:Shared}(h:LpI q A g s m s0):codeAny q.c.M A (.forLoop (.Name y px) (.ref ga) rb [] env) R s0:=by
 refine codeAny_forLoop (LpI q A g s) ?_ m h
 rintro mm s' ⟨W',hp',gst,gi,os',GG',hgs,goes⟩
 refine wpAny_pyNext_gen B.z.a.room.hd (B.at gi .running).a.nolimit B.z.a.room.rl (B.isg W' hp' _ gi.e.le gi.r) hgs goes (fun v s5 gs5 hy=>CD B GG' os' hy fun s3 f o x=>(by cases o with|inl e=>subst e;exact x|inr e=>subst e;exact x)) fun s5 hp5 h' hk'=>?_
 refine hp5.elim fun W5 gi5=>wpAny_execs_nil ?_
 have gr:=gi5.r.grown hk'
 exact hR W5 _ gr.1 ⟨(B.E.trans gi5.e).trans gr.2,(((GG'.set (z:=.running)).step gi5.g).set (z:=.finished)).done (pA (Nat.lt_of_lt_of_le (GG'.set (z:=.running)).lt gi5.g.size)),gi5.o.trans os'⟩
theorem La {m k:Nat}{s3:Shared}{hp2:List O}{R:Result→Shared→Prop}(B:LpB q A sc n F y px rb W hp s env ga s3.gens.size)(rm:Room (q.ng+3) A.in1)(S:GenS s.gens s3.gens)(os:q.si.os=s.os)(g4:q.si.gens=s3.gens.push (.fresh (.func q.X.b q.env)))(t:0<q.si.toks)
  (h0:RS q.c q.gs q.ng q.F q.hpi q.X.s1 .next hp2)(h:q.PL m k .o hp2)(hR:∀ W5 s',Rel q.c.P W5 q.hpE s'.heap→Lat W hp s W5 q.hpE s'→R (.ok .next) s'):codeAny q.c.M A (.forLoop (.Name y px) (.ref ga) rb [] env) R q.si:=
 CG B hR (.mk q.Wi q.hpi (.fresh (.func q.X.b q.env)) ⟨B.b.b,t,.refl ..,.refl _,rfl⟩ os (GenG.new S g4) (by rw[g4,Array.getElem?_push_size]) ⟨rfl,AD (s:=q.si.setGen s3.gens.size .running) B.b rm ⟨B.b.b,t,.refl ..,.refl _,rfl⟩ h0 h⟩)
end
section
variable {c:Cx}{sc gs:aG}{fa ng n:Nat}{F:Fx}{X:GenX}{ri:Expr}{px pos:Pos}{y:Str}{rb:List Stmt}{l m k:Nat}{hp hp1 hp2 hpE:List O}{I:Ins}{cl:Cl}
theorem AG {hpi:List O}{W W3:Wd}{s s3 s4:Shared}{A:Around}{env genv:Env}{ob:Obj}{gf:Nat}{E:Value→Shared→Prop}{R:Result→Shared→Prop}(z:AtF c sc n F hp A W s env)(rm:Room (ng+3) A.in1)(z3:AtF c gs (ng+3) ⟨gf,[],false⟩ hpi A.in1 W3 s3 genv)(L:Lat W hp s W3 hpi s3)
  (fe:FrAt s3.heap genv)(co:genv.scope.isCoroutine=false)(hfree:ob.isFreed=false)(hnf:frm ob=false)(isg:∀ {h:Heap},h.get? s3.heap.objs.size=some ob→h.IsGen s3.heap.objs.size s3.gens.size)
  (h4h:s4.heap=s3.heap.push ob)(h4g:s4.gens=s3.gens.push (.fresh (.func X.b genv)))(h4o:s4.os=s3.os)(h4t:0<s4.toks)(h0:RS c gs ng ⟨gf,[],false⟩ hpi X.s1 .next hp2)
  (h:vQ c gs ng ⟨gf,[],false⟩ X.t hpi.length (YM (Cons c sc n F (.Name y px) rb hpi.length) hpE c gs ng ⟨gf,[],false⟩ X.t hpi.length m) hpE k .o hp2)(hR:∀ W5 s',Rel c.P W5 hpE s'.heap→Lat W hp s W5 hpE s'→R (.ok .next) s'):
  wpAny c.M A (specialOf (.ref s3.heap.objs.size) "__next__") (fun r s₂=>r≠none∧codeAny c.M A (.forLoop (.Name y px) (.ref s3.heap.objs.size) rb [] env) R s₂) E s4:=by
 have y4:=z3.a.rel.allocZ hfree hnf
 rw[← h4h]at y4
 have hfz:(W3.freeze s3.heap.objs.size ob).fz s3.heap.objs.size=some ob:=if_pos rfl
 generalize W3.freeze s3.heap.objs.size ob=W4 at y4 hfz
 refine wpAny_specialOf (isg (y4.1.fz _ _ hfz)).typeIs slot_gen_next.lookup ⟨nofun,?_⟩
 exact La (q:=⟨c,gs,ng,gf,X,Cons c sc n F (.Name y px) rb hpi.length,hpE,W4,hpi,s4,genv⟩) (m:=m) (k:=k)
  ⟨⟨z3.a.fs.ext y4.2,fe.ext y4.2,y4.1,fun a o e=>y4.2.le.fz a o (z3.a.kin a o e),z3.f.mono y4.2.le,z3.sc,co,by unfold interactive;rw[z3.f.kind];rfl⟩,z,L.e.trans y4.2,fun W' hp' h le r=>isg (r.fz _ _ (le.fz _ _ hfz)),rfl⟩
  rm L.g (h4o.trans L.o) h4g h4t h0 h hR
theorem Lb (D:GenD c.K fa gs X.b)(hf:∀ env x,foldedSetIterable ri env x=pure x)(hng:ng+5≤n)
  (h1:RE c sc n F hp ri (.ref l) hp1)(e1:rW hp1 l=some I)(e2:qB c.G.cls I.c=some cl)(e3:lk cl.meths CA=some fa)(h0:RS c gs ng ⟨hp1.length,[],false⟩ (hp1++[.fr [(eK,.ref l)]]) X.s1 .next hp2)
  (h:vQ c gs ng ⟨hp1.length,[],false⟩ X.t (hp1++[O.fr [(eK,.ref l)]]).length (YM (Cons c sc n F (.Name y px) rb (hp1++[O.fr [(eK,.ref l)]]).length) hpE c gs ng ⟨hp1.length,[],false⟩ X.t (hp1++[O.fr [(eK,.ref l)]]).length m) hpE k .o hp2):RS c sc n F hp (.For (.Name y px) ri rb [] pos) .next hpE:=fun A W s env z=>by
 refine wpAny_For (h1.go z fun W1 u s1 z1 L1 x1=>?_) (hf env)
 match D,iI z1.a.rel e1 with
 |.mk o fd ho hd Gi bind,.mk en kk lv nd E gd IA=>
 rw[show u=.ref (W1.ρ l)from x1.2]
 have M:=(BB (c:=c) e2).meths CA fa e3
 have mf:=M.find
 rw[HK]at mf
 have KI:=z1.a.In
 refine CB KI IA mf M.type (wpAny_call ?_)
 refine codeAny_call_generator z.a.room.rl (KI _ _ ho) hd Gi.co Gi.gen Gi.body (codeRec_of KI Gi.code) (bind s1 (.ref (W1.ρ l)) KI _ _ _ _ ?_)
 rw[Gi.clo,Gi.glob,Gi.blt]
 simp only[newFunctionEnv,Option.isSome_none,Bool.false_eq_true,if_false]
 have rm1:Room (ng+3) A.in1:=Room.in1 (z.a.room.less (Nat.le_trans (Nat.le_succ _) hng))
 have y0:=z1.a.rel.alloc (o:=.fr []) (ob:=⟨.type "frame",none,.dict #[],#[]⟩) (.mk "frame" [] 0 rfl)
 have L0:Lat W1 hp1 s1 _ _ {s1 with heap:=_}:=.of (t:=s1.toks) y0.2
 refine wpAny_bind (wpAny_alloc (wpAny_bind (wpAny_with_toks (n:=s1.toks) (Nat.le_refl _) (wpAny_mono (E:=no) (i0 (c:=c) (A:=A.in1) _ (fun name kind cells=>rfl) fd.scope.names [] [] (hp1++[.fr []]) _ {s1 with heap:=s1.heap.push ⟨.type "frame",none,.dict #[],#[]⟩} y0.1 (fun x l e=>nomatch e)
  fun W2 ca s2 Rr L2 C2 t2=>?_) (fun _ _ q=>q) fun _ _ f=>f.elim))))
 rw[Gi.names,Gi.cells]at Rr L2 C2
 have ge:EnvG W2 s2.heap hp1.length gs {scope:=fd.scope,locals:=s1.heap.objs.size,globals:=mainGlobals,cells:=ca,qual:=fd.qualname++Str.ofString ".<locals>.",func:=some fa,code:=fd.code,frame:=some s1.heap.objs.size,builtins:=builtinsNs}:=
  ⟨(FrAt.new Gi.kind rfl z1.a.old).ext L2.e,⟨Nat.lt_of_lt_of_le (by rw[y0.1.len,List.length_append];exact Nat.lt_succ_self _) L2.le.n,((L2.le.ρ _ (by rw[y0.1.len,List.length_append];exact Nat.lt_succ_self _)).trans (z1.a.rel.push_at _)).symm,C2,Gi.kind,rfl,rfl⟩,Gi.names,Gi.co⟩
 generalize ({scope:=fd.scope,locals:=s1.heap.objs.size,globals:=mainGlobals,cells:=ca,qual:=fd.qualname++Str.ofString ".<locals>.",func:=some fa,code:=fd.code,frame:=some s1.heap.objs.size,builtins:=builtinsNs}:Env)=genv at ge
 have L02:Lat _ _ s1 W2 (hp1++[O.fr []]) s2:=L0.trans L2
 refine wpAny_bind (wpAny_with_toks (n:=s2.toks) (Nat.le_refl _) (wpAny_mono (E:=no) (qD (c:=c) (sc:=gs) (hp2:=hp1++[.fr [(eK,.ref l)]]) _ (fun _ _ _=>rfl) [eK] [.ref l] [.ref (W1.ρ l)] _ W2 s2 ⟨(z1.a.next L02 Rr t2).to rm1 (z1.a.fs.ext L02.e).in1,ge.f,ge.n,fun q=>Bool.noConfusion q⟩ (R2.one (VR.mono L02.le ⟨x1.1,rfl⟩)) (fun x m=>by rw[List.mem_singleton.mp m];show genv.scope.names.lookup _=_;rw[ge.n];exact Gi.self) (AE hp1 l)
  fun W3 s3 z3 L3 t3=>wpAny_pure ⟨z3.a.nolimit,AG (X:=X) z rm1 z3 (L1.trans (L02.trans L3)) (ge.fe.ext L3.e) ge.co rfl rfl (fun e=>⟨_,_,_,e,rfl,rfl,rfl⟩) rfl rfl rfl (Nat.succ_pos _) h0 h fun W5 s' r L=>.mk W5 r L rfl⟩) (fun _ _ q=>q) fun _ _ f=>f.elim))
end
end
section
noncomputable def pC:aG→Nm→Option NameKind
 | [],_=>none
 |p::r,x=>match nb p.1.cps.toList x with
  |true=>some p.2
  |false=>pC r x
theorem CI (x:Nm):∀ sc:aG,pC sc x=sc.lookup (st x)
 | []=>rfl
 |p::r=>by
  unfold pC
  rw[List.lookup_cons,← CI x r]
  cases e:nb p.1.cps.toList x with
  |true=>rw[← bO e,aH,beq_self_eq_true]
  |false=>rw[beq_eq_false_iff_ne.mpr fun q:st x=p.1=>oU e (by rw[← q];rfl)]
theorem dB {sc:aG}{q:Str}{k:NameKind}(h:pC sc q.cps.toList=some k):sc.lookup q=some k:=by rw[CI,aH]at h;exact h
noncomputable def PH:Nm:=[95,95,100,101,98,117,103,95,95]
noncomputable def UM:Nm:=[95,95,99,108,97,115,115,100,105,99,116,95,95]
noncomputable def Ld:Nm:=[114,101,112,108,97,99,101]
theorem Le:st PH=("__debug__" :Str):=by decide+kernel
theorem PI:st UM=("__classdict__" :Str):=by decide+kernel
theorem Lg:st Ld=("replace" :Str):=by decide+kernel
theorem Jg {q:Str}{x:Nm}{y:Str}(e:st x=y)(h:nb q.cps.toList x=false):(q==y)=false:=beq_eq_false_iff_ne.mpr fun w=>oU h (by rw[w,← e];rfl)
theorem PJ {q:Str}{x:Nm}{y:Str}(e:st x=y)(h:nb q.cps.toList x=true):q=y:=by rw[← e,← bO h,aH]
noncomputable def mT (r:Expr):Bool:=Nat.beq r.ctorIdx 23||(Nat.beq r.ctorIdx 20||(Nat.beq r.ctorIdx 19||(Nat.beq r.ctorIdx 21)))
theorem hG {r:Expr}(h:mT r=true)(name:Str)(env:Env)(wh:Sem Value):attributeBase r name env wh=wh:=
 (Bool.or_eq_true_iff.mp h).elim (fun h=>Expr.Name.elim (motive_1:=fun r=>attributeBase r name env wh=wh) r (Nat.eq_of_beq_eq_true h) fun _ _=>rfl) fun h=>(Bool.or_eq_true_iff.mp h).elim (fun h=>Expr.Attribute.elim (motive_1:=fun r=>attributeBase r name env wh=wh) r (Nat.eq_of_beq_eq_true h) fun _ _ _=>rfl) fun h=>(Bool.or_eq_true_iff.mp h).elim (fun h=>Expr.Constant.elim (motive_1:=fun r=>attributeBase r name env wh=wh) r (Nat.eq_of_beq_eq_true h) fun _ _ _=>rfl) fun h=>Expr.Subscript.elim (motive_1:=fun r=>attributeBase r name env wh=wh) r (Nat.eq_of_beq_eq_true h) fun _ _ _=>rfl
noncomputable def qP (r:Expr):Bool:=Nat.beq r.ctorIdx 23
theorem vS {g:Expr}{rs:List Expr}{pos:Pos}(h:qP g=true):eval (.Call g rs [] pos)=fun env=>(do callWith pos (← eval g env) [] (backTo pos (starEach rs env)) (backToKw pos (keywordEach [] env))):=
 Expr.Name.elim (motive_1:=fun g=>eval (.Call g rs [] pos)=fun env=>(do callWith pos (← eval g env) [] (backTo pos (starEach rs env)) (backToKw pos (keywordEach [] env)))) g (Nat.eq_of_beq_eq_true h) fun _ _=>rfl
noncomputable def kQ (r:Expr):Bool:=Nat.beq r.ctorIdx 23||(Nat.beq r.ctorIdx 16||(Nat.beq r.ctorIdx 21||(Nat.beq r.ctorIdx 20||(Nat.beq r.ctorIdx 25))))
theorem bW {r:Expr}(h:kQ r=true)(env:Env)(x:Value):foldedSetIterable r env x=pure x:=
 (Bool.or_eq_true_iff.mp h).elim (fun h=>Expr.Name.elim (motive_1:=fun r=>foldedSetIterable r env x=pure x) r (Nat.eq_of_beq_eq_true h) fun _ _=>rfl) fun h=>(Bool.or_eq_true_iff.mp h).elim (fun h=>Expr.Call.elim (motive_1:=fun r=>foldedSetIterable r env x=pure x) r (Nat.eq_of_beq_eq_true h) fun _ _ _ _=>rfl) fun h=>(Bool.or_eq_true_iff.mp h).elim (fun h=>Expr.Subscript.elim (motive_1:=fun r=>foldedSetIterable r env x=pure x) r (Nat.eq_of_beq_eq_true h) fun _ _ _=>rfl) fun h=>(Bool.or_eq_true_iff.mp h).elim (fun h=>Expr.Attribute.elim (motive_1:=fun r=>foldedSetIterable r env x=pure x) r (Nat.eq_of_beq_eq_true h) fun _ _ _=>rfl) fun h=>Expr.Tuple.elim (motive_1:=fun r=>foldedSetIterable r env x=pure x) r (Nat.eq_of_beq_eq_true h) fun _ _ _=>rfl
noncomputable def PK (r:Expr):Bool:=Nat.beq r.ctorIdx 23||(Nat.beq r.ctorIdx 20||(Nat.beq r.ctorIdx 16||(Nat.beq r.ctorIdx 21||(Nat.beq r.ctorIdx 2))))
theorem HM {r:Expr}(h:PK r=true)(env:Env)(whole:Sem Value):PySem.isTrue r env whole=(do let v ← whole;standAt r.pos;holding [v] (truthy v)):=
 (Bool.or_eq_true_iff.mp h).elim (fun h=>Expr.Name.elim (motive_1:=fun r=>PySem.isTrue r env whole=(do let v ← whole;standAt r.pos;holding [v] (truthy v))) r (Nat.eq_of_beq_eq_true h) fun _ _=>rfl) fun h=>(Bool.or_eq_true_iff.mp h).elim (fun h=>Expr.Attribute.elim (motive_1:=fun r=>PySem.isTrue r env whole=(do let v ← whole;standAt r.pos;holding [v] (truthy v))) r (Nat.eq_of_beq_eq_true h) fun _ _ _=>rfl) fun h=>(Bool.or_eq_true_iff.mp h).elim (fun h=>Expr.Call.elim (motive_1:=fun r=>PySem.isTrue r env whole=(do let v ← whole;standAt r.pos;holding [v] (truthy v))) r (Nat.eq_of_beq_eq_true h) fun _ _ _ _=>rfl) fun h=>(Bool.or_eq_true_iff.mp h).elim (fun h=>Expr.Subscript.elim (motive_1:=fun r=>PySem.isTrue r env whole=(do let v ← whole;standAt r.pos;holding [v] (truthy v))) r (Nat.eq_of_beq_eq_true h) fun _ _ _=>rfl) fun h=>Expr.BinOp.elim (motive_1:=fun r=>PySem.isTrue r env whole=(do let v ← whole;standAt r.pos;holding [v] (truthy v))) r (Nat.eq_of_beq_eq_true h) fun _ _ _ _=>rfl
noncomputable def Jh:NameKind→Bool
 |.local=>true
 |_=>false
theorem CJ {k:NameKind}(h:k=.local):Jh k=true:=h▸rfl
noncomputable def b6:Option NameKind→Bool
 |some .local=>true
 |_=>false
theorem b9 {k:Option NameKind}(h:b6 k=true):k=some .local:=by
 cases k with
 |none=>cases h
 |some k=>cases k with
  | «local» =>rfl
  |_=>cases h
noncomputable def isFn:ScopeKind→Bool
 |.function=>true
 |_=>false
theorem HN {k:ScopeKind}(h:isFn k=true):k=.function:=by
 cases k with
 |function=>rfl
 |_=>cases h
noncomputable def PM:List Nm→Bool
 | []=>true
 |_=>false
theorem HO:∀ {l:List Nm},PM l=true→l=[]
 | [],_=>rfl
noncomputable def Lh (scope:Scope)(ri:Expr)(cs:List (Nm×Nat)):Bool:=isFn scope.kind&&(PM (b8 scope.names)&&(((b5 scope.names).all fun x=>(lk cs x).isSome)&&((scope.names.all fun x=> !Jh x.2||b6 (pC scope.names x.1.cps.toList))&&kQ ri)))
theorem jP {scope:Scope}{ri:Expr}{cs:List (Nm×Nat)}(h:Lh scope ri cs=true):ComOk scope ri cs:=
 have h:=Bool.and_eq_true_iff.mp h
 have h2:=Bool.and_eq_true_iff.mp h.2
 have h3:=Bool.and_eq_true_iff.mp h2.2
 have h4:=Bool.and_eq_true_iff.mp h3.2
 ⟨HN h.1,HO h2.1,h3.1,fun x m e=>by
  have q:=List.all_eq_true.mp h4.1 x m
  rw[CJ e]at q
  exact dB (b9 q),bW h4.2⟩
inductive StIs (sc:aG) (g r:Expr):Type where
 |plain (h:∀ env,env.scope.kind=.function→env.scope.names=sc→swappedStores [g] r env=pure none)
 |no
noncomputable def PN (sc:aG)(ts:List Expr)(k:Nat)(p:Pos):(r:Expr)→StIs sc (.Tuple ts k p) r
 |.Tuple vs k' p'=>match e:vs.all (foldedForSure 8)with
  |true=>.plain fun env _ _=>by
   unfold swappedStores
   dsimp only
   rw[e]
   split
   ·rfl
   ·split
    ·rfl
    ·split
     ·rfl
     ·rfl
  |false=>.no
 |.Call .. =>.plain fun _ _ _=>rfl
 |.Name .. =>.plain fun _ _ _=>rfl
 |.Attribute .. =>.plain fun _ _ _=>rfl
 |.Subscript .. =>.plain fun _ _ _=>rfl
 |_=>.no
noncomputable def UN (sc:aG):(g r:Expr)→StIs sc g r
 |.Name ..,_=>.plain fun _ _ _=>rfl
 |.Attribute ..,_=>.plain fun _ _ _=>rfl
 |.Subscript ..,_=>.plain fun _ _ _=>rfl
 |.Tuple ts k p,r=>PN sc ts k p r
 |_,_=>.no
section
variable {c:Cx}{sc:aG}{n:Nat}{F:Fx}{hp hp1 hp2 hp3:List O}{a b:Str}{pa pb p p' pos:Pos}{k k':Nat}{x y:Expr}{v:V}{v1 v2:V}
noncomputable def vU (env:Env)(sc:aG):Env:={env with scope:={env.scope with kind:=.function,names:=sc}}
noncomputable def lL (sc:aG)(t:Stmt)(env:Env):Sem (Option (List Str)):=match t with
 |.Assign ts r _=>swappedStores ts r (vU env sc)
 |_=>pure none
noncomputable def vV (a b:Str):Env→Sem (Option (List Str)):=fun _=>pure (some [a,b])
theorem sT (hk:sc.lookup a=some .local)(e:eH F a.cps.toList v hp=some hp1){A:Around}{W:Wd}{s:Shared}{env:Env}{u:Value}(z:AtF c sc n F hp A W s env)(hv:VR c.P W v u):c.wp A (bindName env a u) (Post c p7 W hp s () hp1) s:=
 wpAny_bindName (by have:=p9 (x:=a.cps.toList) z (by rw[aH];unfold Env.kindOf;rw[z.sc];exact hk) hv e;rwa [aH]at this)
theorem Li (ha:b6 (pC sc a.cps.toList)=true)(hb:b6 (pC sc b.cps.toList)=true)(h:lL sc (.Assign [.Tuple [.Name a pa,.Name b pb] k p] (.Tuple [x,y] k' p') pos)=vV a b)(h1:RE c sc n F hp (.Tuple [x,y] k' p') v hp1)(e:dN v hp1=some [v1,v2])(t1:eH F b.cps.toList v2 hp1=some hp2)(t2:eH F a.cps.toList v1 hp2=some hp3):
  RS c sc n F hp (.Assign [.Tuple [.Name a pa,.Name b pb] k p] (.Tuple [x,y] k' p') pos) .next hp3:=fun A W s env z=>by
 have he:vU env sc=env:=by unfold vU;rw[← z.f.kind,← z.sc]
 have hq:swappedStores [.Tuple [.Name a pa,.Name b pb] k p] (.Tuple [x,y] k' p') (vU env sc)=pure (some [a,b]):=congrFun h env
 rw[he]at hq
 refine PyProof.Rows.Assign_Tuple_swapped (names:=[a,b]) (h1.go z fun W1 u s1 z1 L1 x1=>?_) (fR (r:=.Tuple [x,y] k' p') rfl (some (.Tuple [.Name a pa,.Name b pb] k p)) pos.line env) hq
 match u,dO z1.a.rel x1 e with
 |_,.mk l us m I d=>
  obtain⟨u1,u2,rfl,d1,d2⟩:=eV d
  refine PyProof.Rows.unpackItems_tuple z.a.room.hd (items:=#[u1,u2]) ⟨_,I,rfl,m,rfl⟩ fun h' sb=>?_
  have q:=strange z1.a fun b o ne e=>sb b o ne e
  have z2:=z1.next q.2 (z1.a.next q.2 q.1 (Nat.le_refl _))
  show wpAny _ A (do holding [u1] (bindName env b u2);assignInOrder [bindName env a] [u1]) _ _ _
  refine bK (wpAny_holding (go z2.a (sT (dB (b9 hb)) t1 z2 d2) fun W2 _ s2 a2 L2 _=>?_))
  show wpAny _ A (do holding [] (bindName env a u1);assignInOrder [] []) _ _ _
  refine bK (wpAny_holding (go a2 (sT (dB (b9 ha)) t2 (z2.next L2 a2) (d1.mono L2.le)) fun W3 _ s3 a3 L3 _=>?_))
  exact wpAny_pure (.last (t:=s3.toks) a3 ((L1.trans q.2).trans (L2.trans L3)) rfl)
section
variable {d:Str}{pd:Pos}{w:Expr}{v3:V}{hp4:List O}
noncomputable def sU (a b d:Str):Env→Sem (Option (List Str)):=fun _=>pure (some [a,b,d])
theorem AH {α β:Type}{R:α→β→Prop}{x y z:α}{us:List β}:R2 R [x,y,z] us→∃ u v w,us=[u,v,w]∧R x u∧R y v∧R z w
 |.mk a r=>(eV r).elim fun v q=>q.elim fun w q=>⟨_,v,w,by rw[q.1],a,q.2⟩
theorem Lj (ha:b6 (pC sc a.cps.toList)=true)(hb:b6 (pC sc b.cps.toList)=true)(hd:b6 (pC sc d.cps.toList)=true)(h:lL sc (.Assign [.Tuple [.Name a pa,.Name b pb,.Name d pd] k p] (.Tuple [x,y,w] k' p') pos)=sU a b d)(h1:RE c sc n F hp (.Tuple [x,y,w] k' p') v hp1)(e:dN v hp1=some [v1,v2,v3])
  (t1:eH F d.cps.toList v3 hp1=some hp2)(t2:eH F b.cps.toList v2 hp2=some hp3)(t3:eH F a.cps.toList v1 hp3=some hp4):RS c sc n F hp (.Assign [.Tuple [.Name a pa,.Name b pb,.Name d pd] k p] (.Tuple [x,y,w] k' p') pos) .next hp4:=fun A W s env z=>by
 have he:vU env sc=env:=by unfold vU;rw[← z.f.kind,← z.sc]
 have hq:swappedStores [.Tuple [.Name a pa,.Name b pb,.Name d pd] k p] (.Tuple [x,y,w] k' p') (vU env sc)=pure (some [a,b,d]):=congrFun h env
 rw[he]at hq
 refine PyProof.Rows.Assign_Tuple_swapped (names:=[a,b,d]) (h1.go z fun W1 u s1 z1 L1 x1=>?_) (fR (r:=.Tuple [x,y,w] k' p') rfl (some (.Tuple [.Name a pa,.Name b pb,.Name d pd] k p)) pos.line env) hq
 match u,dO z1.a.rel x1 e with
 |_,.mk l us m I dd=>
  obtain⟨u1,u2,u3,rfl,d1,d2,d3⟩:=AH dd
  refine PyProof.Rows.unpackItems_tuple z.a.room.hd (items:=#[u1,u2,u3]) ⟨_,I,rfl,m,rfl⟩ fun h' sb=>?_
  have q:=strange z1.a fun b o ne e=>sb b o ne e
  have z2:=z1.next q.2 (z1.a.next q.2 q.1 (Nat.le_refl _))
  show wpAny _ A (do holding [u2,u1] (bindName env d u3);assignInOrder [bindName env b,bindName env a] [u2,u1]) _ _ _
  refine bK (wpAny_holding (go z2.a (sT (dB (b9 hd)) t1 z2 d3) fun W2 _ s2 a2 L2 _=>?_))
  have z3:=z2.next L2 a2
  show wpAny _ A (do holding [u1] (bindName env b u2);assignInOrder [bindName env a] [u1]) _ _ _
  refine bK (wpAny_holding (go z3.a (sT (dB (b9 hb)) t2 z3 (d2.mono L2.le)) fun W3 _ s3 a3 L3 _=>?_))
  show wpAny _ A (do holding [] (bindName env a u1);assignInOrder [] []) _ _ _
  refine bK (wpAny_holding (go a3 (sT (dB (b9 ha)) t3 (z3.next L3 a3) (d1.mono (L2.trans L3).le)) fun W4 _ s4 a4 L4 _=>?_))
  exact wpAny_pure (.last (t:=s4.toks) a4 ((L1.trans q.2).trans ((L2.trans L3).trans L4)) rfl)
end
end
end
section
open PySem PySem.W PyProof.Rows PySem.Calls PySem.NumText
noncomputable def WJ:List V→Option (Nm×V)
 | [v,x]=>v.strE.map fun k=>(k,x)
 |_=>none
noncomputable def iE (hp:List O):List V→Option (List (Nm×V))
 | []=>some []
 |v::r=>((items v hp).bind WJ).bind fun p=>(iE hp r).map (p::·)
theorem HP {p:Nm×V}{xs:List V}(h:WJ xs=some p):∃ v,xs=[v,p.2]∧v.strE=some p.1:=by
 cases xs with
 |nil=>cases h
 |cons v r=>cases r with
  |nil=>cases h
  |cons x r=>cases r with
   |nil=>obtain⟨_,e,q⟩:=aS h;exact⟨v,q▸rfl,q▸e⟩
   |cons _ _=>cases h
noncomputable def gO:List (Nm×V)→List (Nm×V)→List (Nm×V)
 |es,[]=>es
 |es,(k,x)::r=>gO (pt es k x) r
theorem HQ:typeLookup (.type "list") "keys" =pure none:=by rw[typeLookup_type,builtinLookup_eq_fast];kernel_rfl
section
variable {c:Cx}{A:Around}{W W0:Wd}{hp hp0:List O}{s s0:Shared}{n:Nat}
theorem AI {a:Addr}{xs:Array Value}{k:Nat}{Q:Option Value→Shared→Prop}(hx:s.heap.get? a=some ⟨.type "list",none,.seq xs k,#[]⟩)(hA:A.handled=none)
  (h:∀ h' tk,(∀ b o,s.heap.get? b=some o→h'.get? b=some o)→Q none {s with heap:=h',toks:=tk}):c.wp A (getAttr? (.ref a) "keys") Q s:=by
 obtain⟨hp,g,d,tk,os⟩:=s
 have hT:∀ tk',(⟨hp,g,d,tk',os⟩:Shared).TypeIs (.ref a) "list" :=fun _=>⟨_,hx,rfl⟩
 have f1:=sub_AttributeError
 have f3:=F.slot_list_getattribute.lookup
 have f4:=F.slot_list_getattribute.bind (.ref a)
 have f5:=am_list_getattr_none
 have hmiss:=HQ
 unfold getAttr? getAttrBy? getAttrBy
 repeat (any_goals (first|assumption|exact hT _|((with_reducible show wpAny _ _ (call (Value.builtin "list.__getattribute__") _ _) _ _ _);refine call_meets F.slot_list_getattribute (hT _) am_entry_list_getattribute (F.args_list_getattribute_2 _ _) (meets_getattribute_miss_list a xs k #[] _ _ hmiss (by decide+kernel) (by decide)) ⟨hx,hA,fun h' tk' e hx'=>?_⟩)|wp_step))
 obtain⟨t',u',he⟩:=hx'.there
 show wpAny _ _ (getattributeRaised _ _ _ _ _ _ _) _ _ _
 unfold getattributeRaised
 repeat (any_goals (first|assumption|wp_step))
 exact h _ _ hx'.keeps
theorem Lk {l:Nat}{es:List (Nm×V)}{y:Nm}{t:Tok}{x:V}{z:Value}{Q:Unit→Shared→Prop}(R:Rel c.P W hp s.heap)(lv:Lv hp l (.ns es))(hx:VR c.P W x z)(hz:es.length≤100)
  (h:∀ h',Rel c.P W (hp.set l (.ns (pt es y x))) h'→Ext W hp s.heap W (hp.set l (.ns (pt es y x))) h'→(∀ b o,b≠W.ρ l→s.heap.get? b=some o→h'.get? b=some o)→Q () {s with heap:=h',toks:=s.toks+1}):
  c.wp A (dictSet (W.ρ l) (.str (st y) t) z) Q s:=by
 rcases R.ns lv with⟨en,k,gd,E,nd⟩
 exact(ER.rows E).elim fun ks r=>by
  refine wpAny_dictSet_pairs (knd:=SK c) (beq_self_eq_true _:Value.isStrOf (st y) (.str (st y) t)=true) ⟨_,_,k,gd,⟨rfl,rfl,rfl⟩,rfl,E.keysOf,r.2,by rw[KR.keys r.1];exact gK nd⟩ (fun h' d' sb=>?_) (by rw[R2.len r.1];exact Nat.le_trans hz (by decide))
  have q:=R.change (o':=.ns (pt es y x)) lv (fun b ne=>sb.2 b ne) (kL d' (g8 hx r.1 nd) (gG y x nd)) (R.nof lv fun _=>nofun)
  exact h h' q.1 q.2 fun b o ne e=>(sb.2 b ne).trans e
theorem pE {v:V}{l:Nat}{es es':List (Nm×V)}(lv:Lv hp l (.ns es)):items v (hp.set l (.ns es'))=items v hp:=by
 cases v with
 |dat d=>cases d <;>rfl
 |ref k=>
  unfold items
  by_cases q:k=l
  ·subst q
   dsimp only
   rw[List.getElem?_set_self lv.lt,lv.e];rfl
  ·dsimp only
   rw[List.getElem?_set_ne (Ne.symm q)]
 |_=>rfl
theorem pF {l:Nat}{es es':List (Nm×V)}(lv:Lv hp l (.ns es)):∀ r:List V,iE (hp.set l (.ns es')) r=iE hp r
 | []=>rfl
 |v::r=>by unfold iE;rw[pE lv,pF lv r]
theorem dE:plainId "dict.update.loop" =true:=by decide+kernel
theorem gP:entryFor table "dict.update.loop" =some Builtin.«dict.update.loop» :=entryFor_of_tree (by kernel_rfl)
theorem CK {l:Nat}{o:O}(lv:Lv hp l o):hp.set l o=hp:=by
 obtain⟨q,e⟩:=List.getElem?_eq_some_iff.mp lv.e
 rw[← e];exact List.set_getElem_self q
theorem CM {l it a:Nat}{v:V}{xs:List V}{res:Value}{F:Result→Shared→Prop}(hh:A.handled=none)(n0:s0.heap.get? it=none)(nz:W.fz it=none)(ne:it≠W.ρ l)(hv:VR c.P W v (.ref a)):
  ∀ (r:List V) (k:Nat) (es ps:List (Nm×V)) (hp:List O) (s:Shared),Rel c.P W hp s.heap→Lat W0 hp0 s0 W hp s→s.heap.IsListIter it a k→¬ Live W hp it→Lv hp l (.ns es)→items v hp=some xs→xs.drop k=r→iE hp r=some ps→es.length+r.length≤100→
   (∀ s',Rel c.P W (hp.set l (.ns (gO es ps))) s'.heap→Lat W0 hp0 s0 W (hp.set l (.ns (gO es ps))) s'→F (.ok (.ret res)) s')→codeAny c.M A (.builtin "dict.update.loop" ⟨[.ref (W.ρ l),.ref it,rawInt k,res],[]⟩) F s:=by
 intro r
 induction r with
 |nil=>
  intro k es ps hp s R L I nl lv ei ed ep hz hF
  cases ep
  refine codeAny_builtin gP ?_
  rw[Around.under_plainId dE _]
  show wpAny _ A.in1 (pyNext (.ref it) >>= _) _ _ s
  match aT R hv ei with
  |.mk _ us n I2 dd=>
   refine wpAny_bind (wpAny_pyNext_list_end (items:=us.toArray) (show A.in1.handled=none from hh) I ⟨_,I2,rfl,n,rfl⟩ ?_ fun h' sb=>?_)
   ·rw[List.getElem?_toArray,List.getElem?_eq_none_iff,R2.len dd]
    exact List.drop_eq_nil_iff.mp ed
   ·have kp:dW it s.heap h':=fun b o q e=>sb b o q e
    rw[show hp.set l (.ns (gO es []))=hp from CK lv]at hF
    exact wpAny_pure (hF _ (R.poke nl nz kp) ⟨L.e.poke n0 kp,L.g,L.o⟩)
 |cons x r ih=>
  intro k es ps hp s R L I nl lv ei ed ep hz hF
  obtain⟨⟨y,xv⟩,h1,h2⟩:=aJ ep
  obtain⟨ps',er,e1⟩:=aS h2
  obtain⟨x2,ex,e2⟩:=aJ h1
  obtain⟨yv,e3,e4⟩:=HP e2
  cases e3
  cases e1
  have at_:xs[k]? =some x:=by
   have:=congrArg (·[0]?) ed
   simpa using this
  refine codeAny_builtin gP ?_
  rw[Around.under_plainId dE _]
  show wpAny _ A.in1 (pyNext (.ref it) >>= _) _ _ s
  match aT R hv ei with
  |.mk _ us n I2 dd=>
  obtain⟨u,hu,hxu⟩:=R2.at dd at_
  refine wpAny_bind (wpAny_pyNext_list_item (items:=us.toArray) I ⟨_,I2,rfl,n,rfl⟩ ((List.getElem?_toArray ..).trans hu) fun h' I' sb=>?_)
  have kp:dW it s.heap h':=aL sb
  have R1:=R.poke nl nz kp
  have L1:Lat W0 hp0 s0 W hp {s with heap:=h'}:=⟨L.e.poke n0 kp,L.g,L.o⟩
  match u,aT R1 hxu ex with
  |_,.mk a2 us2 n2 I3 d3=>
  obtain⟨ku,vu,rfl,hk,hvu⟩:=eV d3
  obtain⟨kt,rfl⟩:=eU e4 hk
  refine wpAny_bind (wpAny_holding ?_)
  refine wpAny_bind (wpAny_tryCatch ?_)
  unfold Builtin.Dict.pairItems
  refine wpAny_bind (wpAny_typeOf (s:={s with heap:=h'}) (⟨_,I3,rfl⟩:Shared.TypeIs {s with heap:=h'} (.ref a2) "list") ?_)
  dsimp only
  rw[if_pos (by decide)]
  refine wpAny_bind (wpAny_seqItems (s:={s with heap:=h'}) I3 rfl (wpAny_pure ?_))
  dsimp only[Option.getD_some]
  have hz2:es.length+(r.length+1)≤100:=by simpa using hz
  refine wpAny_holding (wpAny_mono (Lk (s:={s with heap:=h'}) R1 lv hvu (by lia) fun h2 R2 E2 kd=>?_) (fun _ _ x=>x) fun _ _ f=>f.elim)
  have lv2:Lv (hp.set l (.ns (pt es y xv))) l (.ns (pt es y xv)):=⟨List.getElem?_set_self lv.lt,rfl⟩
  refine wpAny_pure ⟨plainId_quiet dE _,?_⟩
  obtain⟨o,o1,o2,o3⟩:=I'
  have pl:=uM y xv es
  have L2:Lat W0 hp0 s0 W (hp.set l (.ns (pt es y xv))) ⟨h2,s.gens,s.drawn,s.toks+1,s.os⟩:=L1.trans (s':={s with heap:=h'}) ⟨E2,.refl _,rfl⟩
  refine ih (k+1) (pt es y xv) ps' _ _ R2 L2 ⟨o,kd _ _ ne o1,o2,o3⟩ (fun q=>nl ?_) lv2 (by rw[pE lv];exact ei) (by rw[← List.drop_drop,ed];rfl) (by rw[pF lv];exact er) (by lia) fun s' R' L'=>hF s' ?_ ?_
  ·match q with
   |.mk l' o' v' e'=>match v'.set with
    |.inl ⟨q1,_⟩=>exact absurd (q1▸e').symm ne
    |.inr ⟨_,v2⟩=>exact .mk l' o' v2 e'
  ·rw[List.set_set]at R';exact R'
  ·rw[List.set_set]at L';exact L'
theorem CN {h':Heap}(R:Rel c.P W hp s.heap)(kp:∀ b o,s.heap.get? b=some o→h'.get? b=some o):Rel c.P W hp h'∧Ext W hp s.heap W hp h':=
 ⟨R.poke R.new_live R.new_cold fun b o _ e=>kp b o e,(Ext.refl W hp s.heap).poke (cO s.heap) fun b o _ e=>kp b o e⟩
theorem CS {id:String}{l:Nat}{v:V}{u res:Value}{xs:List V}{es ps:List (Nm×V)}{F:Result→Shared→Prop}{E0:Value→Shared→Prop}(hh:A.handled=none)(B:Around)(hB:B.handled=none)(R:Rel c.P W hp s.heap)(lv:Lv hp l (.ns es))(hv:VR c.P W v u)(ei:items v hp=some xs)(ep:iE hp xs=some ps)(hz:es.length+xs.length≤100)
  (hF:∀ s',Rel c.P W (hp.set l (.ns (gO es ps))) s'.heap→Lat W hp s W (hp.set l (.ns (gO es ps))) s'→F (.ok (.ret res)) s'):
  wpAny c.M B (Builtin.Dict.updateFrom id (W.ρ l) u [] res) (fun fin s'=>match fin with|.done f=>F (.ok f) s'|.again c'=>c'.quiet=true∧codeAny c.M A c' F s') E0 s:=by
 rcases aT R hv ei with⟨a,us,n,I,dd⟩
 exact by
  unfold Builtin.Dict.updateFrom
  refine wpAny_bind (wpAny_typeOf (⟨_,I,rfl⟩:s.TypeIs (.ref a) "list") ?_)
  rw[if_pos (by decide)]
  refine wpAny_bind (wpAny_mono (AI I hB fun h1 tk kp=>?_) (fun _ _ x=>x) fun _ _ f=>f.elim)
  have R1:=CN R kp
  simp only[Option.isNone_none,if_true]
  refine wpAny_bind (wpAny_rule ?_)
  refine wpAny_bind (wpAny_pyIter_list (s:={s with heap:=h1,toks:=tk}) (items:=us.toArray) ⟨_,kp _ _ I,rfl,n,rfl⟩ ?_)
  have z:=R1.1.strange (ob:={cls:=.type "list_iterator",data:=.fields #[.ref a,.int 0 0]})
  have nn:s.heap.get? h1.objs.size=none:=eX R1.2 (cO h1)
  have ne:h1.objs.size≠W.ρ l:=fun q=>R1.1.new_live (.mk l _ lv q.symm)
  refine wpAny_pure ⟨plainId_quiet dE _,?_⟩
  exact CM (W0:=W) (hp0:=hp) (s0:=s) (xs:=xs) hh nn R1.1.new_cold ne hv xs 0 es ps hp _ z.1 ⟨R1.2.trans z.2,.refl _,rfl⟩ ⟨_,Heap.get?_push_size _ rfl,rfl,rfl⟩ (fun q=>R1.1.new_live ((by rcases q with⟨l,o,v,e⟩;exact .mk l o v e))) lv ei rfl ep hz hF
theorem pG {v:V}{xs:List V}{o:O}(h:items v hp=some xs):items v (hp++[o])=some xs:=by
 cases v with
 |dat d=>cases d <;>exact h
 |ref k=>
  obtain⟨q,h1,h2⟩:=aJ (h:hp[k]?.bind O.lsE=some xs)
  show(hp++[o])[k]?.bind O.lsE=some xs
  rw[List.getElem?_append_left (List.getElem?_eq_some_iff.mp h1).1,h1]
  exact h2
 |_=>cases h
theorem pH {o:O}:∀ {r:List V} {ps:List (Nm×V)},iE hp r=some ps→iE (hp++[o]) r=some ps
 | [],_,h=>h
 |_::_,_,h=>match aJ h with
  |⟨_,h1,h2⟩=>match aJ h1,aS h2 with
   |⟨_,ix,e⟩,⟨_,er,e'⟩=>Option.bind_eq_some_iff.mpr ⟨_,Option.bind_eq_some_iff.mpr ⟨_,pG ix,e⟩,Option.map_eq_some_iff.mpr ⟨_,pH er,e'⟩⟩
theorem Lm {v:V}{xs:List V}{ps:List (Nm×V)}(ei:items v hp=some xs)(ep:iE hp xs=some ps)(hz:Nat.ble xs.length 100=true):TT c n hp "dict" [v] (.ref hp.length) (hp++[.ns (gO [] ps)]):=fun A W s us z h=>(bU h).elim fun u q=>by
 have hv:=q.2
 rw[q.1]
 have y:=z.rel.alloc (o:=.ns []) (ob:={cls:=.type "dict",data:=.dict #[]}) ⟨List.nodup_nil,.mk [] 0 rfl⟩
 refine callType_codes (Q₁:=fun obj s₁=>obj=.ref s.heap.objs.size∧s₁={s with heap:=s.heap.push {cls:=.type "dict",data:=.dict #[]}}) F.kt_called_dict (F.kt_typeCall_dict_1 _) F.entry_dict_init (kt_code_dict_new _ ⟨rfl,rfl⟩) ?_
 rintro obj s₁ ⟨rfl,rfl⟩
 have hT:Shared.TypeIs {s with heap:=s.heap.push {cls:=.type "dict",data:=.dict #[]}} (.ref s.heap.objs.size) "dict" :=⟨_,Heap.get?_push_size _ rfl,rfl⟩
 refine⟨hT,F.args_dict_init_2 _ _,?_⟩
 unfold Builtin.«dict.__init__»
 refine bK ?_
 unfold Builtin.Dict.selfAndRest
 refine bK (wpAny_notOrdered_dict hT ?_)
 show wpAny _ _ (pure (s.heap.objs.size,[u])) _ _ _
 refine wpAny_pure ?_
 show wpAny _ _ (Builtin.Dict.updateFrom "dict.__init__" s.heap.objs.size u [] .none) _ _ _
 have e2:(hp++[O.ns []]).set hp.length (.ns (gO [] ps))=hp++[.ns (gO [] ps)]:=by simp
 have lv:Lv (hp++[O.ns []]) hp.length (.ns []):=⟨List.getElem?_concat_length,rfl⟩
 have at_:=z.rel.push_at s.heap.objs.size
 have key:=CS (id:="dict.__init__") (res:=.none) (E0:=no) (A:=A.in1) (c:=c) (s:={s with heap:=s.heap.push {cls:=.type "dict",data:=.dict #[]}}) (F:=fun r s'=>r=.ok (.ret .none)∧Post c c.VT W hp s (.ref hp.length) (hp++[.ns (gO [] ps)]) (.ref s.heap.objs.size) s') z.room.hd A.in1.in1 z.room.hd y.1 lv (hv.mono y.2.le) (pG ei) (pH ep) (by simpa using Nat.le_of_ble_eq_true hz)
  fun s' R' L'=>⟨rfl,.mk _ (e2▸R') (Lat.trans (.of (t:=s.toks) y.2) (e2▸L')) ⟨z.rel.len▸Nat.lt_succ_self _,congrArg Value.ref at_.symm⟩⟩
 rw[at_]at key
 refine wpAny_mono key (fun fin s' h=>?_) fun _ _ f=>f
 cases fin with
 |done f=>obtain⟨e1,p⟩:=h;cases e1;exact⟨rfl,p⟩
 |again c=>exact⟨h.1,codeAny_mono h.2 fun r s' ⟨e1,p⟩=>by subst e1;exact⟨rfl,p⟩⟩
theorem HR {l:Nat}{es:List (Nm×V)}(z:At c n A W hp s)(lv:Lv hp l (.ns es)):(W.ρ l==sysModules)=false:=beq_eq_false_iff_ne.mpr fun q=>(by rcases c.top.mods with⟨_,_,_,_,e,_⟩;exact(eG (z.kin _ _ e) (q▸z.rel.cold _ _ lv)).elim)
theorem Ln {l:Nat}{es:List (Nm×V)}(e:hp[l]?.bind O.nsE=some es)(g:Nat.ble es.length lim=true):uW c n hp (.blt "len") [.ref l] (.dat (.int es.length)) hp:=fun A W s fv vals z hf hv=>(bU hv).elim fun u q=>by
 rw[show fv=.builtin "len" from hf,q.1,show u=.ref (W.ρ l)from q.2.2]
 refine⟨.blt _,?_⟩
 match z.rel.ns (gH e)with
 |.mk en k gd E nd=>
  obtain⟨ks,r⟩:=ER.rows (c:=c) E
  rw[← R2.len r.1]
  exact call_len_dict (knd:=SK c) (HR z (gH e)) ⟨_,_,k,gd,⟨rfl,rfl,rfl⟩,rfl,E.keysOf,r.2,by rw[KR.keys r.1];exact gK nd⟩ (by rw[R2.len r.1];exact i8 g) (.tok z (.mk _))
end
noncomputable abbrev HS:Nm:=[52,49]
section
variable {prog:Program}{w:World}{A:Around}{E:Value→Shared→Prop}{s:Shared}{Q:Value→Shared→Prop}
theorem mU (a b:Value):checkTypeCall "int" ⟨[a,b],[]⟩=pure ():=by kernel_rfl
theorem oE (a b:Value):checkBuiltinCall "int.__new__" ⟨[.type "int",a,b],[]⟩=pure ():=by kernel_rfl
theorem CU {M:Model}{v:Value}{text:List Nat}{n:Int}{b:Nat}
  (hs:(text.takeWhile (· !=0)).length≤640)(hr:(int_private% "readNumeral") 0 b (text.takeWhile (· !=0))=(int_private% "Numeral.value") n)
  (ha:((text.takeWhile (· !=0)).length==text.length)=true)(h:Q (.int n s.toks) {s with toks:=s.toks+1}):
  wpAny M A ((int_private% "intFromText") v text b) Q E s:=by
 obtain⟨hp,g,d,tk,os⟩:=s
 repeat (any_goals (first
  |assumption
  |(with_reducible refine wpAny_ite_true (decide_eq_true hs) ?_)
  |(with_reducible refine wpAny_ite_true (decide_eq_true ha) ?_)
  |wp_step))
 all_goals (try rw[hr])
 all_goals (try dsimp only)
 repeat (any_goals (first
  |assumption
  |(with_reducible refine wpAny_ite_true (decide_eq_true hs) ?_)
  |(with_reducible refine wpAny_ite_true (decide_eq_true ha) ?_)
  |wp_step))
theorem HU {u t:Tok}:Gives (Builtin.«int.__new__» ⟨[.type "int",.str (st HS) u,.int 16 t],[]⟩) (.int 65):=
 .of_wp fun M A E s Q hq=>by
  obtain⟨hp,g,d,tk,os⟩:=s
  have f1:=F.conv_sub_int
  have f2:=F.madeHere_int
  have f6:typeOf (.str (st HS) u)=pure (.type "str"):=rfl
  have hk:PySem.W.KIN.Hid (((numTextOf (st HS)).takeWhile (· !=0)).length≤640∧(int_private% "readNumeral") 0 16 ((numTextOf (st HS)).takeWhile (· !=0))=(int_private% "Numeral.value") 65∧(((numTextOf (st HS)).takeWhile (· !=0)).length==(numTextOf (st HS)).length)=true):=⟨by decide+kernel,by kernel_rfl,by decide+kernel⟩
  repeat (any_goals (first
   |assumption
   |((with_reducible show wpAny _ _ ((int_private% "intFromText") _ _ _) _ _ _);refine CU hk.out.1 hk.out.2.1 hk.out.2.2 ?_)
   |wp_step))
  all_goals first|exact⟨_,rfl,hq⟩|skip
end
section
variable {c:Cx}{hp:List O}{n:Nat}
theorem Lp:TT c n hp "int" [.dat (.str HS),.dat (.int 16)] (.dat (.int 65)) hp:=fun A W s us z hv=>(eV hv).elim fun u q=>q.elim fun u' q=>by
 obtain⟨t⟩:=(q.2.1:IsS HS u)
 obtain⟨t'⟩:=(q.2.2:IsI _ u')
 rw[q.1]
 exact callType_new F.called_int F.newNe_int (mU _ _) (oE _ _) (fun obj=>F.args_object_init_3 obj _ _) F.entry_int_new HU.meets (show(Made.int 65).post _ s from⟨rfl,d8 z⟩)
end
noncomputable def iK:List V→Option (List Int)
 | []=>some []
 |v::r=>v.intE.bind fun i=>(iK r).map (i::·)
noncomputable def kR:List Int→Int→Int
 | [],a=>a
 |i::r,a=>kR r (a+i)
theorem x9 {P:Params}{W:Wd}:∀ {xs:List V} {is:List Int} {us:List Value},VRs P W xs us→iK xs=some is→us.length=is.length∧∀ (i:Nat) (v:Value),us[i]? =some v→∃ t,v=.int (is[i]?.getD 0) t
 | [],_,_,h,e=>by obtain rfl:_=[]:=h;cases e;exact⟨rfl,fun _ _ q=>nomatch q⟩
 |_::_,_,_,.mk a r,e=>(aJ e).elim fun x y=>(aS y.2).elim fun is q=>by
  obtain⟨l,k⟩:=x9 r q.1
  obtain⟨t,ht⟩:=dA y.1 a
  rw[← q.2]
  refine⟨congrArg (· +1) l,fun i v e=>?_⟩
  cases i with
  |zero=>cases e;exact⟨t,ht⟩
  |succ i=>exact k i v e
theorem mV (val:Nat→Int):∀ (is:List Int) (k:Nat),(∀ i x,is[i]? =some x→val (k+i)=x)→preSum val (k+is.length)=kR is (preSum val k)
 | [],k,_=>rfl
 |x::is,k,h=>by
  have:=mV val is (k+1) fun i y e=>by rw[Nat.add_assoc,Nat.add_comm 1 i];exact h (i+1) y e
  rw[List.length_cons,Nat.add_comm is.length 1,← Nat.add_assoc,this]
  show kR is (preSum val k+val k)=_
  rw[show val k=x from h 0 x rfl];rfl
section
variable {c:Cx}{hp:List O}{n:Nat}
theorem vW {A:Around}{a I:Addr}{us:List Value}(hh:A.handled=none)(ne:a≠I):WalksS c.prog c.w A I [I,a] [I] (· =·) us.length (fun i v=>us[i]? =some v) (fun i s=>s.heap.IsListIter I a i∧s.heap.IsList a us.toArray) where
 sub:=fun b m=>by cases m with|head=>exact .head _|tail _ m=>cases m
 grefl:=fun _=>rfl
 gtrans:=fun _ _ _ x y=>x.trans y
 frame:=fun i s h' tk st _ kp=>match st with
  |⟨⟨o,o1,o2⟩,⟨l,l1,l2⟩⟩=>⟨⟨o,kp I (.head _) o o1,o2⟩,⟨l,kp a (.tail _ (.head _)) l l1,l2⟩⟩
 item:=fun i s Q E lt st h=>by
  have e:us[i]? =some us[i]:=List.getElem?_eq_getElem lt
  exact wpAny_pyNext_list_item st.1 st.2 ((List.getElem?_toArray ..).trans e) fun h' I' sb=>h _ _ e ⟨I',st.2.extBut sb.extBut ne⟩ ⟨fun b o m e=>aL sb b o (fun q=>m (q ▸ .head _)) e,rfl,rfl,rfl,Nat.le_refl _⟩
 done:=fun s Q E st h=>wpAny_pyNext_list_end hh st.1 st.2 (by rw[List.getElem?_toArray,List.getElem?_eq_none_iff];exact Nat.le_refl _) fun h' sb=>h _ ⟨fun b o m e=>sb b o (fun q=>m (q ▸ .head _)) e,rfl,rfl,rfl,Nat.le_refl _⟩
 self:=fun i s Q E st h=>wpAny_mono (E:=no) (o8 (c:=c) A s I Q ((by rcases st.1 with⟨o,o1,o2,_⟩;exact⟨o,o1,o2⟩)) h) (fun _ _ q=>q) fun _ _ f=>f.elim
theorem vX {v:V}{xs:List V}{is:List Int}(e:items v hp=some xs)(e2:iK xs=some is):uW c n hp (.blt "sum") [v] (.dat (.int (kR is 0))) hp:=fun A W s fv vals z hf hv=>(bU hv).elim fun u q=>by
 rw[show fv=.builtin "sum" from hf,q.1]
 refine⟨.blt _,?_⟩
 match u,aT z.rel q.2 e with
 |_,.mk a us k I d=>
  obtain⟨l,hval⟩:=x9 d e2
  refine call_sum_walkAnyS (wpAny_pyIter_list (items:=us.toArray) ⟨_,I,rfl,k,rfl⟩ ?_)
  have st0:=z.rel.strange (ob:={cls:=.type "list_iterator",data:=.fields #[.ref a,.int 0 0]})
  have la:a<s.heap.objs.size:=Heap.lt_size I
  refine⟨s.heap.objs.size,_,_,_,us.length,_,_,fun i=>is[i]?.getD 0,rfl,vW (show A.in1.handled=none from z.room.hd) (Nat.ne_of_lt la),⟨⟨_,Heap.get?_push_size _ rfl,rfl,rfl⟩,⟨_,Heap.get?_push_of_some _ I,rfl,k,rfl⟩⟩,fun b m=>?_,hval,fun s' t' hm=>?_⟩
  ·rw[Heap.size_push]
   cases m with
   |head=>exact Nat.lt_succ_self _
   |tail _ m=>cases m with
    |head=>exact Nat.lt_succ_of_lt la
    |tail _ m=>cases m
  ·have kp:dW s.heap.objs.size (s.heap.push {cls:=.type "list_iterator",data:=.fields #[.ref a,.int 0 0]}) s'.heap:=fun b o ne e=>hm.heap b o (fun m=>by
    cases m with
    |head=>exact ne rfl
    |tail _ m=>cases m) e
   have sm:=mV (fun i=>is[i]?.getD 0) is 0 fun i x e=>by rw[Nat.zero_add,e];rfl
   rw[Nat.zero_add,← l]at sm
   rw[sm]
   exact .mk W (st0.1.poke z.rel.new_live z.rel.new_cold kp) ⟨st0.2.poke (cO s.heap) kp,hm.gens ▸ .refl _,hm.os⟩ (.mk t')
variable (c)(n)(hp)
noncomputable def UO:(v:V)→Option ((b:Nat)×PLift (v=.dat (.int (.ofNat b))))
 |.dat (.int (.ofNat b))=>some ⟨b,⟨rfl⟩⟩
 |_=>none
noncomputable def UP:(v:V)→Option ((x:Nm)×PLift (v=.dat (.str x)))
 |.dat (.str x)=>some ⟨x,⟨rfl⟩⟩
 |_=>none
noncomputable def PO (t:String):(args:List V)→Option (Rs V (TT c n hp t args))
 | [v]=>tk (items v hp) fun xs e=>tk (iE hp xs) fun ps e2=>some ⟨.ref hp.length,hp++[.ns (gO [] ps)],decide (t="dict")&&Nat.ble xs.length 100,fun g=>have g:=Bool.and_eq_true_iff.mp g;of_decide_eq_true g.1▸Lm e e2 g.2⟩
 | [v,w]=>tk (UP v) fun x e=>tk (UO w) fun b e2=>some ⟨.dat (.int 65),hp,decide (t="int")&&(Nat.beq b.1 16&&nb x.1 HS),fun g=>have g:=Bool.and_eq_true_iff.mp g;have g2:=Bool.and_eq_true_iff.mp g.2;by
   rw[of_decide_eq_true g.1,x.2.down,b.2.down,Nat.eq_of_beq_eq_true g2.1,bO g2.2]
   exact Lp⟩
 |_=>none
noncomputable def UQ (i:String):(args:List V)→Option (Rs V (uW c n hp (.blt i) args))
 | [v]=>match v with
  |.ref l=>w6 (hp[l]?.bind O.nsE) (fun es e=>some ⟨.dat (.int es.length),hp,decide (i="len")&&Nat.ble es.length lim,fun g=>have g:=Bool.and_eq_true_iff.mp g;of_decide_eq_true g.1▸Ln e g.2⟩)
   fun _=>tk (items (.ref l) hp) fun xs e=>tk (iK xs) fun is e2=>some ⟨.dat (.int (kR is 0)),hp,decide (i="sum"),fun g=>of_decide_eq_true g▸vX e e2⟩
  |v=>tk (items v hp) fun xs e=>tk (iK xs) fun is e2=>some ⟨.dat (.int (kR is 0)),hp,decide (i="sum"),fun g=>of_decide_eq_true g▸vX e e2⟩
 |_=>none
end
section
variable {c:Cx}{sc:aG}{n:Nat}{F:Fx}{hp hp1 hp2 hp3 hp4:List O}
structure SKs (c:Cx) (sc:aG) (n:Nat) (F:Fx) (hp:List O) (ks:List Nm) (kws:List Keyword) (us:List V) (hp':List O):Prop where
 go:∀ A W s env pos,AtF c sc n F hp A W s env→c.wp A (evalAll ((backToKw pos (keywordEach kws env)).map (·.2))) (Post c c.VTs W hp s us hp') s
 all:∀ env pos,(backToKw pos (keywordEach kws env)).all (·.1.isSome)=true
 any:∀ env pos,(backToKw pos (keywordEach kws env)).any (·.1.isNone)=false
 zip:∀ env pos (us:List Value),((backToKw pos (keywordEach kws env)).filterMap (·.1)).zip us=mF ks us
 len:ks.length=us.length
theorem Lq:SKs c sc n F hp [] [] [] hp:=⟨fun A W s env pos z=>kwAll_nil (.here z.a rfl),fun _ _=>rfl,fun _ _=>rfl,fun _ _ us=>by cases us <;>rfl,rfl⟩
theorem HV {ks:List Nm}{r:Expr}{kws:List Keyword}{y:Str}{p:Pos}{v:V}{vs:List V}(h1:RE c sc n F hp r v hp1)(hs:SKs c sc n F hp1 ks kws vs hp2):SKs c sc n F hp (y.cps.toList::ks) (⟨some y,r,p⟩::kws) (v::vs) hp2:=
 ⟨fun A W s env pos z=>kwAll_cons (h1.go z fun W1 u s1 z1 L1 x1=>wpAny_mono (hs.go A W1 s1 env pos z1) (fun us s2 q=>(by rcases q with⟨W2,R2,L2,x2⟩;exact .mk W2 R2 (L1.trans L2) (.mk (x1.mono L2.le) x2))) fun _ _ f=>f),fun env pos=>hs.all env pos,fun env pos=>hs.any env pos,fun env pos us=>by
  cases us with
  |nil=>rfl
  |cons u us=>
   show(y,u)::_=(st y.cps.toList,u)::mF ks us
   rw[aH,← hs.zip env pos us];rfl,congrArg (· +1) hs.len⟩
theorem Ls {r:Expr}{a:Str}{ap p:Pos}{x:Nm}{ks:List Nm}{kws:List Keyword}{u v:V}{us:List V}{f l:Nat}(hl:Nat.blt kws.length 29=true)(hp':(ap.endLine==p.line)=true)(hb:∀ env wh,attributeBase r a env wh=wh)(h1:RE c sc n F hp r u hp1)(h2:GT c n hp1 u a.cps.toList (.fn f l) hp2)
  (hs:SKs c sc n F hp2 ks kws us hp3)(hk:KwOk c.K f x ks)(h4:CallOk c n f (.ref l::us) hp3 v hp4):RE c sc n F hp (.Call (.Attribute r a ap) [] kws p) v hp4:=fun A W s env z=>by
 have hl:=Nat.le_of_ble_eq_true hl
 show wpAny _ _ (eval _ env) _ _ _
 rw[arm_eval_Call,hb]
 refine wpAny_bind (h1.go z fun W1 u1 s1 z1 L1 x1=>wpAny_bind (wpAny_standAt ?_))
 have few:methodCallForm (([]:List Expr).length+kws.length) (backTo p (starEach [] env)) (backToKw p (keywordEach kws env))=true:=by
  unfold methodCallForm
  rw[hs.all env p]
  simp only[Bool.and_eq_true,decide_eq_true_eq]
  refine⟨⟨by rfl,trivial⟩,?_⟩
  show 0+kws.length+_<30
  have hl:kws.length+1≤29:=hl
  split <;>lia
 unfold methodCall
 rw[few]
 unfold calleeOf
 simp only[if_true]
 rw[← aH a]
 refine wpAny_bind (wpAny_holding (go z1.a (h2 _ A W1 s1 u1 z1.a x1) fun W2 fx s2 a2 L2 x2=>?_))
 have hpos:methodCallPos true r env ap p=pure p:=by
  unfold methodCallPos
  simp[hp']
 obtain⟨g,first⟩:=fx
 dsimp only
 rw[hpos]
 obtain⟨hlt,e2⟩:=(x2:l<W2.n∧(g,first)=(.ref f,[.ref (W2.ρ l)]))
 cases e2
 refine wpAny_bind (wpAny_pure ?_)
 refine callWith_of (P:=fun h=>Keep c.M h (.ref f)) (by rw[hs.any env p];rfl) (fun _ k=>(by rcases k with⟨k,o,l⟩;exact⟨k,o,l⟩)) ?_
 refine evalArgs_kw2_nil (hs.all env p) ?_
 refine go (z1.next L2 a2).a (hs.go A W2 s2 env p (z1.next L2 a2)) fun W3 us3 s3 a3 L3 x3=>?_
 rw[hs.zip env p us3]
 refine⟨.of (keeps_K (jC h4.fn) _ a3.In),?_⟩
 have L03:=(L1.trans L2).trans L3
 exact fin L03 (wpAny_call (codeAny_mono (h4.run A W3 s3 (.ref (W2.ρ l)::us3) _ (.kw hk (by rw[R2.len x3,hs.len])) a3 (.mk ⟨Nat.lt_of_lt_of_le hlt L3.le.n,congrArg Value.ref (L3.le.ρ _ hlt).symm⟩ x3)) fun _ _ q=>(by rcases q with⟨_,p⟩;exact p)))
theorem PP {f:Nat}{ks:List Nm}{k:Nat×Nm×List Nm}{r:List (Nat×Nm×List Nm)}(e:(Nat.beq k.1 f&&decide (k.2.2=ks))=true):(f,k.2.1,ks)∈k::r:=by
 have e:=Bool.and_eq_true_iff.mp e
 obtain⟨k1,k2,k3⟩:=k
 cases Nat.eq_of_beq_eq_true e.1
 cases of_decide_eq_true e.2
 exact .head _
noncomputable def Wr (f:Nat)(ks:List Nm)(l:List (Nat×Nm×List Nm)):Option {x:Nm // (f,x,ks)∈l}:=
 List.rec none (fun k _ R=>match e:(Nat.beq k.1 f&&decide (k.2.2=ks))with
  |true=>some ⟨k.2.1,PP e⟩
  |false=>R.map fun x=>⟨x.1,.tail _ x.2⟩) l
end
theorem DRe.find {P:Params}{W:Wd}{x:Nm}:∀ {es:List (Nm×D)} {en:List DictEntry},DRe P W.fz es en→(lC (st x) en).isSome=bM x (es.map (·.1))
 | [],_,h=>by obtain rfl:_=[]:=h;rfl
 |(y,d)::es,_,.mk (a:=e) a r=>by
  unfold lC
  rw[a.key x]
  show _=(nb y x||bM x (es.map (·.1)))
  cases nb y x with
  |true=>rfl
  |false=>exact DRe.find r
noncomputable def PS (c:Cx)(n:Nat)(hp:List O):(op:Cm)→(a b:V)→Option (Rs Bool fun k hp'=>cG c n hp (compareOp (bR op)) jA a b k hp')
 |.isin,.dat (.str x),.dat (.dct es)=>some ⟨bM x (es.map (·.1)),hp,!bM Au (es.map (·.1)),fun g A W s _ _ z (.mk t) (.mk a en k f d)=>wpAny_in_of (knd:=SK c) (beq_self_eq_true _:Value.isStrOf (st x) (.str (st x) t)=true) (sN z.le0 f d ((Bool.not_eq_true' _).mp g)) (BG (DRe.er d) (z.rel.fz _ _ f)) (by
   have q:=DRe.find (x:=x) d
   cases e:lC (st x) en with
   |some u=>rw[xC e,← q,e];exact .tok z rfl
   |none=>
    have e2:findBy Value.isStrOf en.toArray (st x)=none:=by
     unfold findBy
     rw[List.find?_toArray,funext fun e:DictEntry=>Oo (st x) e.key]
     exact(gE _ _).trans e
    rw[e2,← q,e];exact .tok z rfl)⟩
 |_,_,_=>none
end
section
inductive Hi where
 |tst (k:Nat) (b:Bool)
 |val (k:Nat) (v:V)
 |cal (f m:Nat) (σ:List Nat) (v:V) (hp:List O)
 |nxt (m:Nat) (σ:List Nat) (v:V) (hp:List O)
 |itm (k:Nat) (v:V)
 |set (hp:List O)
 |cll (f m:Nat) (v:V) (hp:List O)
 |inl (f:Nat) (σ:List Nat)
 |sub (k:Nat) (v:V)
 |cmp (k:Nat) (b:Bool)
 |exp (k:Nat) (v:V) (hp:List O)
 |bm (v:V) (hp:List O)
 |stm (l:Nat) (fl:Fl) (hp:List O)
 |led (l:Nat) (hp:List O)
structure St where
 hp:List O
 hs:List Hi
 g:Bool
 ob:Prop
structure St.Ok (S:St):Prop where
 g:S.g=true
 ob:S.ob
structure Out (S:St) (β:Type) (T:β→List O→Prop) where
 v:β
 s:St
 ok:s.Ok→S.Ok∧T v s.hp
noncomputable def mW:Bool→Bool→Bool
 |true,b=>b
 |false,_=>false
theorem fS:∀ {a b:Bool},mW a b=true→a=true∧b=true
 |true,_,h=>⟨rfl,h⟩
noncomputable def St.up (S:St)(hp:List O)(g:Bool):St:=⟨hp,S.hs,mW g S.g,S.ob⟩
theorem St.up_ok {S:St}{hp:List O}{g:Bool}(h:(S.up hp g).Ok):g=true∧S.Ok:=have q:=fS h.g;⟨q.1,q.2,h.ob⟩
noncomputable def bd {α β:Type}(x:Option α)(f:α→Option β):Option β:=match x with
 |some a=>f a
 |none=>none
noncomputable def at_ (p:Pos)(k:Nat):Bool:=Nat.beq (Nat.add (Nat.mul p.line 1000000) (Nat.add (Nat.mul p.col 1000) p.endCol)) k
section
variable {S:St}{T:V→List O→Prop}{U:Bool→List O→Prop}
noncomputable def PT (p:Pos)(a:Out S V T):Out S V T:=match a.s.hs with
 |.val k v::r=>match at_ p k with
  |true=>⟨v,⟨a.s.hp,r,a.s.g,a.v=v∧a.s.ob⟩,fun h=>have q:=a.ok ⟨h.g,h.ob.2⟩;⟨q.1,h.ob.1▸q.2⟩⟩
  |false=>a
 |_=>a
noncomputable def CW (p:Pos)(a:Out S Bool U):Out S Bool U:=match a.s.hs with
 |.tst k t::r=>match at_ p k with
  |true=>⟨t,⟨a.s.hp,r,mW (Al t a.v) a.s.g,a.s.ob⟩,fun h=>have w:=fS h.g;have q:=a.ok ⟨w.2,h.ob⟩;⟨q.1,(show a.v=t from(eq_of_beq ((mL t a.v).trans w.1)).symm)▸q.2⟩⟩
  |false=>a
 |_=>a
end
structure Tab (c:Cx) where
 l:List (Nat×Fn)
 ok:∀ a F,(a,F)∈l→FnD c.P c.K a F
noncomputable def mX {α:Type}:List (Nat×α)→Nat→Option α
 | [],_=>none
 |x::r,b=>match Nat.beq x.1 b with
  |true=>some x.2
  |false=>mX r b
theorem fK {α:Type}{b:Nat}{x:α}:∀ {l:List (Nat×α)},mX l b=some x→(b,x)∈l
 |y::r,h=>by
  unfold mX at h
  cases e:Nat.beq y.1 b with
  |true=>rw[e]at h;rw[← Nat.eq_of_beq_eq_true e,← Option.some.inj h];exact .head _
  |false=>rw[e]at h;exact .tail _ (fK h)
structure Ev (c:Cx) where
 e:(sc:aG)→(n:Nat)→(F:Fx)→(r:Expr)→(S:St)→Option (Out S V (RE c sc n F S.hp r))
 t:(sc:aG)→(n:Nat)→(F:Fx)→(r:Expr)→(S:St)→Option (Out S Bool (RB c sc n F S.hp r))
 x:(sc:aG)→(n:Nat)→(F:Fx)→(r:List Stmt)→(S:St)→Option (Out S Fl (RX c sc n F S.hp r))
 g:(sc:aG)→(n:Nat)→(F:Fx)→(r:Expr)→(v:V)→(S:St)→Option (Out S Unit (fun _ hp'=>RG c sc n F S.hp r v hp'))
 ap:(n:Nat)→(f:V)→(args:List V)→(S:St)→Option (Out S V (uW c n S.hp f args))
 call:(n f:Nat)→(args:List V)→(S:St)→Option (Out S V (CallOk c n f args S.hp))
section
variable {c:Cx}{n:Nat}{hp hp2:List O}{args:List V}
theorem Rel.freeze0 {P:Params}{W:Wd}{h:Heap}(R:Rel P W hp h){l:Nat}{d:D}(e:p5 l hp=some d):∃ W',Rel P W' (hp.set l .gone) h∧Ext W hp h W' (hp.set l .gone) h∧DR P W'.fz d (.ref (W.ρ l)):=
 (aJ e).elim fun o q=>have v:Lv hp l o:=⟨q.1,O.dt_live q.2⟩;match R.obj _ _ v with
  |.mk ob g r=>
   have z:=R.cold _ _ v
   have le:=Wd.le_freeze (o:=ob) z
   have pk:∀ k o1,Lv (hp.set l .gone) k o1→From P W hp h (W.freeze (W.ρ l) ob) (id k) k o1:=fun k o1 x=>match x.set with
    |.inl ⟨_,e'⟩=>nomatch (e'▸x.v:O.live .gone=true)
    |.inr ⟨n,y⟩=>.mk o1 y rfl ((R.obj _ _ y).imp (fun _=>id) fun _=>OR.mono le) ((if_neg fun q=>n (R.inj _ _ _ _ y v q)).trans (R.cold _ _ y))
   ⟨_,R.via (k:=id) (by rw[List.length_set];exact R.len) (fun a o1 e=>by
     by_cases q:a=W.ρ l
     ·subst q;rw[← Option.some.inj ((if_pos rfl).symm.trans e)];exact g
     ·exact R.fz _ _ ((if_neg q).symm.trans e)) (Wd.nf_freeze R.nf (r.nofrm (O.dt_fr q.2))) pk fun _ _ _ _=>id,
    ⟨le,fun a o1 e=>⟨fun _=>.here e,From.live pk,.here e,fun o2 f=>by
     by_cases q:a=W.ρ l
     ·exact .inr (.mk l o v q.symm)
     ·exact .inl ((if_neg q).symm.trans f)⟩⟩,O.dt_ok le.fz q.2 r (if_pos rfl)⟩
theorem CX {f l:Nat}{d:D}(h:CallOk c n f args hp (.ref l) hp2)(e:p5 l hp2=some d):CallOk c n f args hp (.dat d) (hp2.set l .gone):=
 ⟨h.fn,fun A W s vals aa ha z hv=>codeAny_mono (h.run A W s vals aa ha z hv) fun r s' q=>(by rcases q with⟨u,⟨W',R',L,x⟩⟩;exact(by rcases R'.freeze0 e with⟨W2,R2,E2,y⟩;exact .mk u (.mk W2 R2 ⟨L.e.trans E2,L.g,L.o⟩ ((show u=.ref (W'.ρ l)from x.2)▸y))))⟩
noncomputable def PU (f:Nat):(v:V)→(hp2:List O)→Rs V (fun v' hp'=>CallOk c n f args hp v hp2→CallOk c n f args hp v' hp')
 |.ref l,hp2=>match Nat.ble hp.length l with
  |true=>match e:p5 l hp2 with
   |some d=>⟨.dat d,hp2.set l .gone,true,fun _ h=>CX h e⟩
   |none=>⟨.ref l,hp2,true,fun _=>id⟩
  |false=>⟨.ref l,hp2,true,fun _=>id⟩
 |v,hp2=>⟨v,hp2,true,fun _=>id⟩
variable (tab:Tab c)(ih:Ev c)
noncomputable def AJ:(n:Nat)→(f:Nat)→(args:List V)→(S:St)→Option (Out S V (CallOk c n f args S.hp))
 |0,_,_,_=>none
 |n+1,f,args,S=>tk (mX tab.l f) fun F e=>tk (rX F args S.hp) fun p en=>bd (ih.x F.names n p.1 F.body ⟨p.2,S.hs,S.g,S.ob⟩) fun b=>tk (Kc b.v) fun v rv=>
  let z:=PU (c:=c) (n:=n+1) (hp:=S.hp) (args:=args) f v b.s.hp
  some ⟨z.v,b.s.up z.hp (mW (Nat.ble args.length F.params.length) (mW (Nat.ble F.params.length (args.length+F.dflt.length)) z.g)),fun h=>
   have h1:=St.up_ok h
   have h2:=fS h1.1
   have h3:=fS h2.2
   have q:=b.ok h1.2
   ⟨⟨q.1.g,q.1.ob⟩,z.ok h3.2 (xA (tab.ok f F (fK e)) h2.1 h3.1 en q.2 rv)⟩⟩
theorem HW {m n f:Nat}{args:List V}{hp hp':List O}{v:V}(l:Nat.ble m n=true)(h:CallOk c m f args hp v hp'):CallOk c n f args hp v hp':=
 ⟨h.fn,fun A W s vals aa ha z hv=>h.run A W s vals aa ha (z.less (Nat.le_of_ble_eq_true l)) hv⟩
noncomputable def Ji (n f m:Nat)(σ:List Nat)(v:V)(hp':List O)(args:List V)(S:St)(r:List Hi):Out S V (CallOk c n f args S.hp):=
 ⟨v.ren (rn σ S.hp.length),⟨dU σ S.hp hp',r,mW (Kd σ args S.hp) (mW (Nat.ble m n) S.g),CallOk c m f (args.map (V.ren (kr σ))) (kept σ S.hp) v hp'∧S.ob⟩,fun h=>
  have h1:=fS h.g
  have h2:=fS h1.2
  ⟨⟨h2.2,h.ob.2⟩,qE h1.1 h2.1 h.ob.1⟩⟩
noncomputable def UR (n f:Nat)(σ:List Nat)(args:List V)(S:St)(r:List Hi):Option (Out S V (CallOk c n f args S.hp)):=
 bd (AJ tab ih n f (args.map (V.ren (kr σ))) ⟨kept σ S.hp,r,S.g,S.ob⟩) fun a=>some ⟨a.v.ren (rn σ S.hp.length),a.s.up (dU σ S.hp a.s.hp) (Kd σ args S.hp),fun h=>
  have h1:=St.up_ok h
  have q:=a.ok h1.2
  ⟨⟨q.1.g,q.1.ob⟩,qE h1.1 (Nat.ble_eq_true_of_le (Nat.le_refl n)) q.2⟩⟩
noncomputable def Lu (n f:Nat)(args:List V)(S:St):Option (Out S V (CallOk c n f args S.hp)):=match S.hs with
 |.cal f' m σ v hp'::r=>match Nat.beq f' f with
  |true=>some (Ji n f m σ v hp' args S r)
  |false=>AJ tab ih n f args S
 |.nxt m σ v hp'::r=>some (Ji n f m σ v hp' args S r)
 |.cll f' m v hp'::r=>match Nat.beq f' f with
  |true=>some ⟨v,⟨hp',r,mW (Nat.ble m n) S.g,CallOk c m f args S.hp v hp'∧S.ob⟩,fun h=>
   have w:=fS h.g
   ⟨⟨w.2,h.ob.2⟩,HW w.1 h.ob.1⟩⟩
  |false=>AJ tab ih n f args S
 |.inl f' σ::r=>match Nat.beq f' f with
  |true=>UR tab ih n f σ args S r
  |false=>AJ tab ih n f args S
 |_=>AJ tab ih n f args S
theorem Lx {i:String}{v:V}{b:Bi}(e:i=GN b)(h:BT c n hp b args v hp2):uW c n hp (.blt i) args v hp2:=fun A W s fv vals z hf hv=>by
 subst e
 rw[show fv=.builtin (GN b)from hf]
 exact⟨.blt _,h A W s vals z hv⟩
theorem CY {t:String}{v:V}(h:TT c n hp t args v hp2):uW c n hp (.typ t) args v hp2:=fun A W s fv vals z hf hv=>by
 rw[show fv=.type t from hf]
 exact⟨.typ _,h A W s vals z hv⟩
noncomputable def Ly:(v:V)→Option (PLift (v=.dat .non))
 |.dat .non=>some ⟨rfl⟩
 |_=>none
noncomputable def PV:(n:Nat)→(a:Nat)→(args:List V)→(S:St)→Option (Out S V (uW c n S.hp (.top a) args))
 |0,_,_,_=>none
 |n+1,a,args,S=>tk (qB c.G.cls a) fun cl e=>tk (lk cl.meths xJ) fun i e2=>bd (ih.call n i (.ref (S.hp.length+1)::args) ⟨S.hp++[.ns [],.ins a S.hp.length],S.hs,S.g,S.ob⟩) fun b=>bd (Ly b.v) fun w=>
  some ⟨.ref (S.hp.length+1),b.s,fun h=>have q:=b.ok h;⟨⟨q.1.g,q.1.ob⟩,Kq e e2 (w.down▸q.2)⟩⟩
noncomputable def PY (n:Nat)(i:String)(args:List V)(S:St):Option (Out S V (uW c n S.hp (.blt i) args)):=tk (Kr i) fun b e=>bd (Wn c n S.hp b args) fun z=>some ⟨z.v,S.up z.hp z.g,fun h=>have q:=St.up_ok h;⟨q.2,Lx (Ou e) (z.ok q.1)⟩⟩
noncomputable def PZ (n:Nat)(t:String)(args:List V)(S:St):Option (Out S V (uW c n S.hp (.typ t) args)):=match UG c n S.hp t args with
 |some z=>some ⟨z.v,S.up z.hp z.g,fun h=>have q:=St.up_ok h;⟨q.2,CY (z.ok q.1)⟩⟩
 |none=>bd (PO c S.hp n t args) fun z=>some ⟨z.v,S.up z.hp z.g,fun h=>have q:=St.up_ok h;⟨q.2,CY (z.ok q.1)⟩⟩
noncomputable def US (n:Nat)(f:V)(args:List V)(S:St):Option (Out S V (uW c n S.hp f args)):=match f with
 |.top a=>match qB c.G.cls a with
  |some _=>PV ih n a args S
  |none=>bd (ih.call n a args S) fun b=>some ⟨b.v,b.s,fun h=>have q:=b.ok h;⟨q.1,Ot q.2⟩⟩
 |.mth a l=>bd (ih.call n a (.ref l::args) S) fun b=>some ⟨b.v,b.s,fun h=>have q:=b.ok h;⟨q.1,Ko q.2⟩⟩
 |.blt i=>match PY n i args S with
  |some a=>some a
  |none=>bd (UQ c S.hp n i args) fun z=>some ⟨z.v,S.up z.hp z.g,fun h=>have q:=St.up_ok h;⟨q.2,z.ok q.1⟩⟩
 |.typ t=>PZ n t args S
 |_=>none
noncomputable def Pa (n:Nat)(m:MC)(args:List V)(S:St):Option (Out S V (xN c n S.hp m args)):=match m with
 |.fn f l=>bd (ih.call n f (.ref l::args) S) fun b=>some ⟨b.v,b.s,fun h=>have q:=b.ok h;⟨q.1,Oy q.2⟩⟩
 |.fnT f a=>bd (ih.call n f (.top a::args) S) fun b=>some ⟨b.v,b.s,fun h=>have q:=b.ok h;⟨q.1,Kw q.2⟩⟩
 |.val v=>bd (ih.ap n v args S) fun b=>some ⟨b.v,b.s,fun h=>have q:=b.ok h;⟨q.1,Kx q.2⟩⟩
 |m=>match S.hs with
  |.bm v hp'::r=>some ⟨v,⟨hp',r,S.g,xN c n S.hp m args v hp'∧S.ob⟩,fun h=>⟨⟨h.g,h.ob.2⟩,h.ob.1⟩⟩
  |_=>bd (Wo c n S.hp args m) fun z=>some ⟨z.v,S.up z.hp z.g,fun h=>have q:=St.up_ok h;⟨q.2,z.ok q.1⟩⟩
end
end
section
theorem CZ {a:Bool}{op:BoolOp}{C:Prop}(e:Al a (eW op)=true)(e':a= !eW op):C:=by
 rw[e',← mL]at e
 cases op <;>cases e
theorem Ca {a:Bool}{op:BoolOp}{C:Prop}(e:Al a (eW op)=false)(e':a=eW op):C:=by
 rw[e',← mL]at e
 cases op <;>cases e
structure OpIs (o:Operator) where
 op:Op
 e:fA op=o
noncomputable def WK:(o:Operator)→Option (OpIs o)
 |.Add=>some ⟨.add,rfl⟩
 |.Sub=>some ⟨.sub,rfl⟩
 |.Mod=>some ⟨.mod,rfl⟩
 |.FloorDiv=>some ⟨.fdiv,rfl⟩
 |.Mult=>some ⟨.mul,rfl⟩
 |.Pow=>some ⟨.pow,rfl⟩
 |_=>none
structure CmIs (o:CmpOp) where
 op:Cm
 e:bR op=o
noncomputable def UT:(o:CmpOp)→CmIs o
 |.Eq=>⟨.eq,rfl⟩|.NotEq=>⟨.ne,rfl⟩|.Lt=>⟨.lt,rfl⟩|.LtE=>⟨.le,rfl⟩|.Gt=>⟨.gt,rfl⟩|.GtE=>⟨.ge,rfl⟩|.Is=>⟨.isn,rfl⟩|.IsNot=>⟨.isnotn,rfl⟩|.In=>⟨.isin,rfl⟩|.NotIn=>⟨.notin,rfl⟩
section
variable {c:Cx}{sc:aG}{n:Nat}{F:Fx}{hp hp1 hp2 hp3 hp4 hp5:List O}{p:Pos}{l r m x:Expr}{u v w:V}{b b':Bool}
theorem Cb {o:Operator}{op:Op}(e:fA op=o)(h1:RE c sc n F hp l u hp1)(h2:RE c sc n F hp1 r v hp2)(h3:cG c n hp2 (binaryOp (fA op)) c.VT u v w hp3):RE c sc n F hp (.BinOp l o r p) w hp3:=by subst e;exact Gm h1 h2 h3
theorem Lz {o:CmpOp}{op:Cm}(e:bR op=o)(hm:(!lastMarks [o] [x])=true)(h1:RE c sc n F hp r u hp1)(h2:RE c sc n F hp1 x v hp2)(h3:cG c n hp2 (compareOp (bR op)) jA u v b hp3):
  RE c sc n F hp (.Compare r [o] [x] p) (.dat (.boo b)) hp3∧RB c sc n F hp (.Compare r [o] [x] p) b hp3:=by
 subst e
 have hm:=(Bool.not_eq_true' _).mp hm
 exact⟨Gq hm h1 h2 h3,Gr hm h1 h2 h3⟩
theorem Cc {o o':CmpOp}{op op':Cm}(e:bR op=o)(e':bR op'=o')(hm:(!lastMarks [o,o'] [m,x])=true)(h1:RE c sc n F hp r u hp1)(h2:RE c sc n F hp1 m v hp2)(h3:cG c n hp2 (compareOp (bR op)) jA u v b hp3)
  (h4:b=false→b'=false∧hp5=hp3)(h5:b=true→RE c sc n F hp3 x w hp4∧cG c n hp4 (compareOp (bR op')) jA v w b' hp5):
  RE c sc n F hp (.Compare r [o,o'] [m,x] p) (.dat (.boo b')) hp5∧RB c sc n F hp (.Compare r [o,o'] [m,x] p) b' hp5:=by
 subst e e'
 have hm:=(Bool.not_eq_true' _).mp hm
 exact⟨Gs hm h1 h2 h3 h4 h5,Gu hm h1 h2 h3 h4 h5⟩
end
section
variable {c:Cx}(tab:Tab c)(ih:Ev c)(sc:aG)(n:Nat)(F:Fx)
noncomputable def gd {α:Type}(b:Bool)(f:b=true→Option α):Option α:=match b,f with
 |true,f=>f rfl
 |false,_=>none
noncomputable def Pb (k:Nat)(p:Pos)(S:St):(v:Const)→Option (Out S V (RE c sc n F S.hp (.Constant v k p)))
 |.none=>some ⟨.dat .non,S,fun h=>⟨h,GX⟩⟩
 |.bool b=>some ⟨.dat (.boo b),S,fun h=>⟨h,GZ⟩⟩
 |.int i=>some ⟨.dat (.int i),S,fun h=>⟨h,Ga⟩⟩
 |.str t=>some ⟨.dat (.str t.cps.toList),S,fun h=>⟨h,Gb⟩⟩
 |_=>none
theorem Cd {q:Str}(h:pC sc q.cps.toList=some .free)(hc:(!nb q.cps.toList UM)=true):sc.lookup q=some .cell∨(sc.lookup q=some .free∧(q==("__classdict__" :Str))=false):=.inr ⟨dB h,Jg PI ((Bool.not_eq_true' _).mp hc)⟩
noncomputable def Pd (q:Str)(p:Pos)(S:St):Option (Out S V (RE c sc n F S.hp (.Name q p))):=gd (!nb q.cps.toList PH) fun d=>
 have d:=Jg Le ((Bool.not_eq_true' _).mp d)
 tk (pC sc q.cps.toList) fun k e=>match k,e with
 |.local,e=>tk (zQ F q.cps.toList S.hp) fun v e2=>some ⟨v,S,fun h=>⟨h,Gd (dB e) d e2⟩⟩
 |.cell,e=>tk (Fq F q.cps.toList S.hp) fun v e2=>some ⟨v,S,fun h=>⟨h,xR (.inl (dB e)) d e2⟩⟩
 |.free,e=>gd (!nb q.cps.toList UM) fun hc=>tk (Fq F q.cps.toList S.hp) fun v e2=>some ⟨v,S,fun h=>⟨h,xR (Cd sc e hc) d e2⟩⟩
 |.globalImplicit,e=>tk (Fu c.G q.cps.toList) fun v e2=>some ⟨v,S,fun h=>⟨h,Ge (dB e) d e2⟩⟩
 |_,_=>none
noncomputable def Pe (r:Expr)(a:Str)(p:Pos)(S:St):Option (Out S V (RE c sc n F S.hp (.Attribute r a p))):=gd (mT r) fun hb=>bd (ih.e sc n F r S) fun x=>bd (Ol c n x.s.hp x.v a.cps.toList) fun z=>
 some ⟨z.v,x.s.up z.hp z.g,fun h=>have q:=St.up_ok h;have w:=x.ok q.2;⟨w.1,Gf (fun env wh=>hG hb a env wh) w.2 (z.ok q.1)⟩⟩
noncomputable def HX (rs:List Expr):(S:St)→Option (Out S (List V) (xQ c sc n F S.hp rs)):=
 List.rec (fun S=>some ⟨[],S,fun h=>⟨h,jD⟩⟩) (fun r _ R S=>bd (ih.e sc n F r S) fun x=>bd (R x.s) fun y=>some ⟨x.v::y.v,y.s,fun h=>have q:=y.ok h;have w:=x.ok q.1;⟨w.1,fJ w.2 q.2⟩⟩) rs
noncomputable def Pf (g:Expr)(rs:List Expr)(p:Pos)(S:St):Option (Out S V (RE c sc n F S.hp (.Call g rs [] p))):=gd (qP g) fun h1=>gd (rs.all bJ) fun h2=>bd (ih.e sc n F g S) fun x=>bd (HX ih sc n F rs x.s) fun y=>bd (ih.ap n x.v y.v y.s) fun z=>
 some ⟨z.v,z.s,fun h=>have q:=z.ok h;have w:=y.ok q.1;have t:=x.ok w.1;⟨t.1,xS h2 (vS h1) t.2 w.2 q.2⟩⟩
noncomputable def Pg (r:Expr)(a:Str)(ap:Pos)(rs:List Expr)(p:Pos)(S:St):Option (Out S V (RE c sc n F S.hp (.Call (.Attribute r a ap) rs [] p))):=gd (mT r) fun hb=>gd (rs.all bJ) fun h2=>gd (Nat.blt rs.length 30) fun h3=>gd (ap.endLine==p.line) fun h4=>
 bd (ih.e sc n F r S) fun x=>bd (Kv c n x.s.hp x.v a.cps.toList) fun m=>bd (HX ih sc n F rs (x.s.up m.hp m.g)) fun y=>bd (Pa ih n m.v y.v y.s) fun z=>
 some ⟨z.v,z.s,fun h=>have q:=z.ok h;have w:=y.ok q.1;have u:=St.up_ok w.1;have t:=x.ok u.2;⟨t.1,Gg h2 (Nat.le_of_ble_eq_true h3) h4 (fun env wh=>hG hb a env wh) t.2 (m.ok u.1) w.2 q.2⟩⟩
structure StrIs (v:V) where
 x:Nm
 e:v=.dat (.str x)
noncomputable def Ph:(v:V)→Option (StrIs v)
 |.dat (.str x)=>some ⟨x,rfl⟩
 |_=>none
theorem Pi {v:V}{x:Nm}(e:v=.dat (.str x)):v=.dat (.str (st x).cps.toList):=e
noncomputable def Pj (r:Expr)(a:Str)(ap:Pos)(ya:Str)(ka:Nat)(pa:Pos)(yb:Str)(kb:Nat)(pb:Pos)(p:Pos)(S:St):Option (Out S V (RE c sc n F S.hp (.Call (.Attribute r a ap) [.Constant (.str ya) ka pa,.Constant (.str yb) kb pb] [] p))):=
 gd (nb a.cps.toList Ld) fun ha=>gd (mT r) fun hb=>gd (ap.endLine==p.line) fun h4=>gd (!nb ya.cps.toList yb.cps.toList) fun g1=>gd (rU ya.cps.toList) fun g2=>gd (Nat.ble yb.cps.toList.length 14) fun g4=>bd (ih.e sc n F r S) fun x=>bd (Ph x.v) fun w=>
 some ⟨.dat (.str (fI ya.cps.toList yb.cps.toList 0 w.x)),x.s.up x.s.hp (Nat.ble w.x.length lim),fun h=>have q:=St.up_ok h;have t:=x.ok q.2;⟨t.1,PJ Lg ha▸HC (t:=st w.x) h4 (fun env wh=>hG hb "replace" env wh) (Pi w.e▸t.2) ((Bool.not_eq_true' _).mp g1) g2 q.1 g4⟩⟩
noncomputable def Pk (g:Expr)(rs:List Expr)(p:Pos)(S:St):Option (Out S V (RE c sc n F S.hp (.Call g rs [] p))):=match g with
 |.Attribute r a ap=>match nb a.cps.toList Ld with
  |true=>match rs with
   | [.Constant (.str ya) ka pa,.Constant (.str yb) kb pb]=>Pj ih sc n F r a ap ya ka pa yb kb pb p S
   |_=>none
  |false=>Pg ih sc n F r a ap rs p S
 |g=>Pf ih sc n F g rs p S
noncomputable def Ce (S:St):(r:Option Expr)→Option (Out S V (RP c sc n F S.hp r))
 |none=>some ⟨.dat .non,S,fun h=>⟨h,Kz⟩⟩
 |some r=>bd (ih.e sc n F r S) fun x=>some ⟨x.v,x.s,fun h=>have q:=x.ok h;⟨q.1,LA q.2⟩⟩
noncomputable def Pm (p:Pos)(o i:V)(S:St):Option (Out S V (cG c n S.hp getItem c.VT o i)):=
 let usual:Option (Out S V (cG c n S.hp getItem c.VT o i)):=bd (Oq c n S.hp o i) fun z=>some ⟨z.v,S.up z.hp z.g,fun h=>have q:=St.up_ok h;⟨q.2,z.ok q.1⟩⟩
 match S.hs with
 |.sub k v::r=>match at_ p k with
  |true=>some ⟨v,⟨S.hp,r,S.g,(∀ hp,cG c n hp getItem c.VT o i v hp)∧S.ob⟩,fun h=>⟨⟨h.g,h.ob.2⟩,h.ob.1 _⟩⟩
  |false=>usual
 |.itm k v::r=>match at_ p k with
  |true=>some ⟨v,⟨S.hp,r,S.g,cG c n S.hp getItem c.VT o i v S.hp∧S.ob⟩,fun h=>⟨⟨h.g,h.ob.2⟩,h.ob.1⟩⟩
  |false=>usual
 |_=>usual
noncomputable def Pn (r x:Expr)(p:Pos)(S:St):Option (Out S V (RE c sc n F S.hp (.Subscript r x p))):=match x with
 |.Slice ol oh none ap=>bd (ih.e sc n F r S) fun a=>bd (Ce ih sc n F a.s ol) fun b=>bd (Ce ih sc n F b.s oh) fun d=>gd (jE a.v d.s.hp) fun hi=>bd (UJ c n d.s.hp a.v b.v d.v) fun z=>
  some ⟨z.v,d.s.up z.hp z.g,fun h=>have q:=St.up_ok h;have w:=d.ok q.2;have t:=b.ok w.1;have u:=a.ok t.1;⟨u.1,Gk u.2 t.2 w.2 hi (z.ok q.1)⟩⟩
 |x=>gd (gL x) fun hn=>bd (ih.e sc n F r S) fun a=>bd (ih.e sc n F x a.s) fun b=>gd (jE a.v b.s.hp) fun hi=>bd (Pm n p a.v b.v b.s) fun z=>
  some ⟨z.v,z.s,fun h=>have q:=z.ok h;have w:=b.ok q.1;have t:=a.ok w.1;⟨t.1,Gh hn t.2 w.2 hi q.2⟩⟩
noncomputable def Po (l:Expr)(o:Operator)(r:Expr)(p:Pos)(S:St):Option (Out S V (RE c sc n F S.hp (.BinOp l o r p))):=bd (WK o) fun k=>bd (ih.e sc n F l S) fun a=>bd (ih.e sc n F r a.s) fun b=>bd (UC c n b.s.hp k.op a.v b.v) fun z=>
 some ⟨z.v,b.s.up z.hp z.g,fun h=>have q:=St.up_ok h;have w:=b.ok q.2;have t:=a.ok w.1;⟨t.1,Cb k.e t.2 w.2 (z.ok q.1)⟩⟩
structure IntIs (v:V) where
 x:Nat
 e:v=.dat (.int x)
noncomputable def Pp:(v:V)→Option (IntIs v)
 |.dat (.int (.ofNat x))=>some ⟨x,rfl⟩
 |_=>none
noncomputable def Pq (o:UnaryOp)(r:Expr)(p:Pos)(S:St):Option (Out S V (RE c sc n F S.hp (.UnaryOp o r p))):=bd (ih.e sc n F r S) fun a=>match o with
 |.Not=>bd (Kl c n a.s.hp a.v) fun z=>some ⟨.dat (.boo !z.v),a.s.up z.hp z.g,fun h=>have q:=St.up_ok h;have t:=a.ok q.2;⟨t.1,Gx t.2 (z.ok q.1)⟩⟩
 |.USub=>bd (Pp a.v) fun w=>some ⟨.dat (.int (-(w.x:Int))),a.s,fun h=>have t:=a.ok h;⟨t.1,Gl (w.e▸t.2)⟩⟩
 |_=>none
noncomputable def Pr (rs:List Expr)(p:Pos)(S:St):Option (Out S V (RE c sc n F S.hp (.List rs p))):=gd (rs.all bJ) fun h2=>bd (HX ih sc n F rs S) fun y=>
 some ⟨.ref y.s.hp.length,y.s.up (y.s.hp++[.lst y.v]) (Nat.ble y.v.length lim),fun h=>have q:=St.up_ok h;have w:=y.ok q.2;⟨w.1,Gn h2 w.2 q.1⟩⟩
noncomputable def Ps (rs:List Expr)(k:Nat)(p:Pos)(S:St):Option (Out S V (RE c sc n F S.hp (.Tuple rs k p))):=gd (rs.all bJ) fun h2=>bd (HX ih sc n F rs S) fun y=>
 some ⟨(uZ y.v y.s.hp).1,y.s.up (uZ y.v y.s.hp).2 (Nat.ble y.v.length lim),fun h=>have q:=St.up_ok h;have w:=y.ok q.2;⟨w.1,Gp h2 w.2 q.1⟩⟩
structure Kws (S:St) (R:List Nm→List V→List O→Prop) where
 ks:List Nm
 vs:List V
 s:St
 ok:s.Ok→S.Ok∧R ks vs s.hp
noncomputable def UU (kws:List Keyword):(S:St)→Option (Kws S (fun ks vs hp'=>SKs c sc n F S.hp ks kws vs hp')):=
 List.rec (fun S=>some ⟨[],[],S,fun h=>⟨h,Lq⟩⟩) (fun k _ R S=>match k with
  |⟨some y,r,p⟩=>bd (ih.e sc n F r S) fun a=>bd (R a.s) fun b=>some ⟨y.cps.toList::b.ks,a.v::b.vs,b.s,fun h=>have q:=b.ok h;have t:=a.ok q.1;⟨t.1,HV t.2 q.2⟩⟩
  |⟨none,_,_⟩=>none) kws
noncomputable def Pu:(m:MC)→Option ((f:Nat)×(l:Nat)×PLift (m=.fn f l))
 |.fn f l=>some ⟨f,l,⟨rfl⟩⟩
 |_=>none
noncomputable def UV (r:Expr)(a:Str)(ap:Pos)(kws:List Keyword)(p:Pos)(S:St):Option (Out S V (RE c sc n F S.hp (.Call (.Attribute r a ap) [] kws p))):=gd (mT r) fun hb=>gd (Nat.blt kws.length 29) fun h3=>gd (ap.endLine==p.line) fun h4=>
 bd (ih.e sc n F r S) fun x=>bd (Kv c n x.s.hp x.v a.cps.toList) fun m=>bd (Pu m.v) fun fl=>bd (UU ih sc n F kws (x.s.up m.hp m.g)) fun y=>bd (Wr fl.1 y.ks c.G.kws) fun w=>bd (ih.call n fl.1 (.ref fl.2.1::y.vs) y.s) fun z=>
 some ⟨z.v,z.s,fun h=>have q:=z.ok h;have w':=y.ok q.1;have u:=St.up_ok w'.1;have t:=x.ok u.2;⟨t.1,Ls h3 h4 (fun env wh=>hG hb a env wh) t.2 (fl.2.2.down▸m.ok u.1) w'.2 (c.top.kws _ w.2) q.2⟩⟩
noncomputable def UW (p:Pos)(op:Cm)(a b:V)(S:St):Option (Out S Bool (cG c n S.hp (compareOp (bR op)) jA a b)):=
 let usual:Option (Out S Bool (cG c n S.hp (compareOp (bR op)) jA a b)):=match sC c n S.hp op a b with
  |some z=>some ⟨z.v,S.up z.hp z.g,fun h=>have q:=St.up_ok h;⟨q.2,z.ok q.1⟩⟩
  |none=>bd (PS c n S.hp op a b) fun z=>some ⟨z.v,S.up z.hp z.g,fun h=>have q:=St.up_ok h;⟨q.2,z.ok q.1⟩⟩
 match S.hs with
 |.cmp k t::r=>match at_ p k with
  |true=>some ⟨t,⟨S.hp,r,S.g,(∀ hp,cG c n hp (compareOp (bR op)) jA a b t hp)∧S.ob⟩,fun h=>⟨⟨h.g,h.ob.2⟩,h.ob.1 _⟩⟩
  |false=>usual
 |.itm k (.dat (.boo t))::r=>match at_ p k with
  |true=>some ⟨t,⟨S.hp,r,S.g,cG c n S.hp (compareOp (bR op)) jA a b t S.hp∧S.ob⟩,fun h=>⟨⟨h.g,h.ob.2⟩,h.ob.1⟩⟩
  |false=>usual
 |_=>usual
noncomputable def Pv (r:Expr)(o:CmpOp)(x:Expr)(p:Pos)(S:St):Option (Out S Bool (fun b hp'=>RE c sc n F S.hp (.Compare r [o] [x] p) (.dat (.boo b)) hp'∧RB c sc n F S.hp (.Compare r [o] [x] p) b hp')):=let k:=UT o
 gd (!lastMarks [o] [x]) fun hm=>bd (ih.e sc n F r S) fun a=>bd (ih.e sc n F x a.s) fun b=>bd (UW n p k.op a.v b.v b.s) fun z=>
 some ⟨z.v,z.s,fun h=>have q:=z.ok h;have w:=b.ok q.1;have t:=a.ok w.1;⟨t.1,Lz k.e hm t.2 w.2 q.2⟩⟩
noncomputable def Pw (r:Expr)(o o':CmpOp)(m x:Expr)(p:Pos)(S:St):Option (Out S Bool (fun b hp'=>RE c sc n F S.hp (.Compare r [o,o'] [m,x] p) (.dat (.boo b)) hp'∧RB c sc n F S.hp (.Compare r [o,o'] [m,x] p) b hp')):=let k:=UT o;let k':=UT o'
 gd (!lastMarks [o,o'] [m,x]) fun hm=>bd (ih.e sc n F r S) fun a=>bd (ih.e sc n F m a.s) fun b=>bd (sC c n b.s.hp k.op a.v b.v) fun z=>let z':=CW (S:=b.s) (U:=cG c n b.s.hp (compareOp (bR k.op)) jA a.v b.v) r.pos ⟨z.v,b.s.up z.hp z.g,fun h=>have q:=St.up_ok h;⟨q.2,z.ok q.1⟩⟩
 match z' with
 |⟨false,s,ok⟩=>some ⟨false,s,fun h=>have q:=ok h;have w:=b.ok q.1;have t:=a.ok w.1;⟨t.1,Cc k.e k'.e hm t.2 w.2 q.2 (fun _=>⟨rfl,rfl⟩) (w:=.dat .non) (hp4:=s.hp) nofun⟩⟩
 |⟨true,s,ok⟩=>bd (ih.e sc n F x s) fun d=>bd (sC c n d.s.hp k'.op b.v d.v) fun y=>some ⟨y.v,d.s.up y.hp y.g,fun h=>have q:=St.up_ok h;have u:=d.ok q.2;have q':=ok u.1;have w:=b.ok q'.1;have t:=a.ok w.1;⟨t.1,Cc k.e k'.e hm t.2 w.2 q'.2 nofun fun _=>⟨u.2,y.ok q.1⟩⟩⟩
noncomputable def Jj (r:Expr)(os:List CmpOp)(xs:List Expr)(p:Pos)(S:St):Option (Out S Bool (fun b hp'=>RE c sc n F S.hp (.Compare r os xs p) (.dat (.boo b)) hp'∧RB c sc n F S.hp (.Compare r os xs p) b hp')):=match os,xs with
 | [o],[x]=>Pv ih sc n F r o x p S
 | [o,o'],[m,x]=>Pw ih sc n F r o o' m x p S
 |_,_=>none
noncomputable def Px (op:BoolOp)(p:Pos)(rs:List Expr):(S:St)→Option (Out S V (RA c sc n F S.hp op p rs)):=
 List.rec (fun _=>none) (fun r rs R S=>match rs,R with
  | [],_=>bd (ih.e sc n F r S) fun a=>some ⟨a.v,a.s,fun h=>have q:=a.ok h;⟨q.1,LB q.2⟩⟩
  |x::rs,R=>bd (ih.e sc n F r S) fun a=>bd (Kl c n a.s.hp a.v) fun z=>let z':=CW (S:=a.s) (U:=Ax c n a.s.hp truthy Aw a.v) r.pos ⟨z.v,a.s.up z.hp z.g,fun h=>have q:=St.up_ok h;⟨q.2,z.ok q.1⟩⟩
   match e:Al z'.v (eW op)with
   |true=>some ⟨a.v,z'.s,fun h=>have q:=z'.ok h;have t:=a.ok q.1;⟨t.1,Ba t.2 q.2 (fun _=>⟨rfl,rfl⟩) (CZ e)⟩⟩
   |false=>bd (R z'.s) fun y=>some ⟨y.v,y.s,fun h=>have w:=y.ok h;have q:=z'.ok w.1;have t:=a.ok q.1;⟨t.1,Ba t.2 q.2 (Ca e) fun _=>w.2⟩⟩) rs
noncomputable def Py (op:BoolOp)(rs:List Expr):(S:St)→Option (Out S Bool (RL c sc n F S.hp op rs)):=
 List.rec (fun S=>some ⟨!eW op,S,fun h=>⟨h,LC⟩⟩) (fun r _ R S=>bd (ih.t sc n F r S) fun a=>match e:Al a.v (eW op)with
   |true=>some ⟨a.v,a.s,fun h=>have t:=a.ok h;⟨t.1,Bb t.2 (fun _=>⟨rfl,rfl⟩) (CZ e)⟩⟩
   |false=>bd (R a.s) fun y=>some ⟨y.v,y.s,fun h=>have w:=y.ok h;have t:=a.ok w.1;⟨t.1,Bb t.2 (Ca e) fun _=>w.2⟩⟩) rs
noncomputable def Pz (r l x:Expr)(p:Pos)(S:St):Option (Out S V (RE c sc n F S.hp (.IfExp r l x p))):=bd (ih.t sc n F r S) fun a=>match a with
 |⟨true,s,ok⟩=>bd (ih.e sc n F l s) fun y=>some ⟨y.v,y.s,fun h=>have w:=y.ok h;have t:=ok w.1;⟨t.1,xV t.2 (fun _=>w.2) nofun⟩⟩
 |⟨false,s,ok⟩=>bd (ih.e sc n F x s) fun y=>some ⟨y.v,y.s,fun h=>have w:=y.ok h;have t:=ok w.1;⟨t.1,xV t.2 nofun fun _=>w.2⟩⟩
structure Dis (S:St) (R:List Nm→List V→List O→Prop) where
 ks:List Nm
 vs:List V
 s:St
 ok:s.Ok→S.Ok∧R ks vs s.hp
noncomputable def UX (p:Pos)(keys:List (Option Expr)):(rs:List Expr)→(S:St)→Option (Dis S (fun ks vs hp'=>RD c sc n F S.hp p ks keys rs vs hp')):=
 List.rec (fun rs S=>match rs with
  | []=>some ⟨[],[],S,fun h=>⟨h,LD⟩⟩
  |_=>none) (fun k _ R rs S=>match k,rs with
  |some (.Constant (.str t) j ap),r::rs=>bd (ih.e sc n F r S) fun x=>bd (R rs x.s) fun y=>some ⟨t.cps.toList::y.ks,x.v::y.vs,y.s,fun h=>have q:=y.ok h;have w:=x.ok q.1;⟨w.1,LI w.2 q.2⟩⟩
  |_,_=>none) keys
noncomputable def QA:(es:List (Nm×V))→Option (PLift (es=[]))
 | []=>some ⟨rfl⟩
 |_=>none
noncomputable def QB (keys:List (Option Expr))(rs:List Expr)(p:Pos)(S:St):Option (Out S V (RE c sc n F S.hp (.Dict keys rs p))):=gd (keys.all (·.isSome)&&(Nat.beq keys.length rs.length&&(rU keys&&Nat.ble keys.length 15))) fun g=>
 bd (UX ih sc n F p keys rs ⟨S.hp++[.ns []],S.hs,S.g,S.ob⟩) fun y=>tk (y.s.hp[S.hp.length]?.bind O.nsE) fun es e=>bd (QA es) fun w=>
 some ⟨.ref S.hp.length,y.s.up (y.s.hp.set S.hp.length (.ns (o6 y.ks y.vs []))) true,fun h=>have q:=St.up_ok h;have t:=y.ok q.2;⟨⟨t.1.g,t.1.ob⟩,HD g t.2 (w.down▸e)⟩⟩
end
end
section
section
variable {c:Cx}{sc:aG}{n:Nat}{F:Fx}{hp hp1 hp2 hp3 hp4 hp5 hp6:List O}{p px:Pos}{l r x:Expr}{u v w y:V}{q:Str}{o:Operator}{op:Op}
theorem HY (e:fA op=o)(hk:sc.lookup q=some .local)(e1:zQ F q.cps.toList hp=some u)(h2:RE c sc n F hp r w hp1)(h3:cG c n hp1 (inplaceOp (fA op)) c.VT u w v hp2)(e2:eH F q.cps.toList v hp2=some hp3):RS c sc n F hp (.AugAssign (.Name q px) o r p) .next hp3:=by
 subst e;exact LR hk e1 h2 h3 e2
theorem HZ (e:fA op=o)(h1:RE c sc n F hp l y hp1)(h2:∀ e,Ax c n hp1 (fun u=>getAttr u (st q.cps.toList) e) c.VT y u hp2)(h3:RE c sc n F hp2 r w hp3)(h4:cG c n hp3 (inplaceOp (fA op)) c.VT u w v hp4)(h5:cG c n hp4 (fun u w=>setAttr u (st q.cps.toList) w) p7 y v () hp5):
  RS c sc n F hp (.AugAssign (.Attribute l q px) o r p) .next hp5:=by subst e;exact LS h1 h2 h3 h4 h5
theorem Ha (e:fA op=o)(hn:gL x=true)(h1:RE c sc n F hp l y hp1)(h2:RE c sc n F hp1 x w hp2)(h3:cG c n hp2 getItem c.VT y w u hp3)(h4:RE c sc n F hp3 r v hp4){v':V}(h5:cG c n hp4 (inplaceOp (fA op)) c.VT u v v' hp5)(h6:Jd c n hp5 y w v' hp6):
  RS c sc n F hp (.AugAssign (.Subscript l x px) o r p) .next hp6:=by subst e;exact LU hn h1 h2 h3 h4 h5 h6
theorem Hb:RS c sc n F hp (.Return none p) (.ret (.dat .non)) hp:=fun _ _ _ _ z=>wpAny_Return_none (.here z.a ⟨.none,rfl,rfl⟩)
end
noncomputable def Hc:Nat:=4000
inductive FlIs (fl:Fl):Type where
 |on (h:fl.on=true)
 |out (fl':Fl) (h:fl.stp=some fl')
noncomputable def QC:(fl:Fl)→FlIs fl
 |.next=>.on rfl
 |.cont=>.on rfl
 |.brk=>.out .next rfl
 |.ret v=>.out (.ret v) rfl
inductive GoIs (fl:Fl):Type where
 |on (h:fl=.next)
 |out (h:fl.goes=false)
noncomputable def UY:(fl:Fl)→GoIs fl
 |.next=>.on rfl
 |.cont=>.out rfl
 |.brk=>.out rfl
 |.ret _=>.out rfl
section
variable {c:Cx}(tab:Tab c)(ih:Ev c)(sc:aG)(n:Nat)(F:Fx)
noncomputable def QD (rs:List Expr):(vs:List V)→(S:St)→Option (Out S Unit (fun _ hp'=>OV c sc n F S.hp rs vs hp')):=
 List.rec (fun vs S=>match vs with
  | []=>some ⟨(),S,fun h=>⟨h,u7⟩⟩
  |_=>none) (fun r _ R vs S=>match vs with
  |v::vs=>bd (ih.g sc n F r v S) fun a=>bd (R vs a.s) fun b=>some ⟨(),b.s,fun h=>have q:=b.ok h;have t:=a.ok q.1;⟨t.1,jJ t.2 q.2⟩⟩
  | []=>none) rs
noncomputable def Ws (g:Expr)(v:V)(S:St):Option (Out S Unit (fun _ hp'=>RG c sc n F S.hp g v hp')):=match g with
 |.Name q p=>tk (pC sc q.cps.toList) fun k e=>match k,e with
  |.local,e=>tk (eH F q.cps.toList v S.hp) fun hp' e2=>some ⟨(),S.up hp' true,fun h=>have w:=St.up_ok h;⟨w.2,b0 (dB e) e2⟩⟩
  |.cell,e=>tk (Ft F q.cps.toList v S.hp) fun hp' e2=>some ⟨(),S.up hp' true,fun h=>have w:=St.up_ok h;⟨w.2,u6 (dB e) e2⟩⟩
  |_,_=>none
 |.Attribute r q p=>bd (ih.e sc n F r S) fun a=>bd (Om c n a.s.hp a.v q.cps.toList v) fun z=>some ⟨(),a.s.up z.hp z.g,fun h=>have w:=St.up_ok h;have t:=a.ok w.2;⟨t.1,LP t.2 (z.ok w.1)⟩⟩
 |.Subscript r x p=>bd (ih.e sc n F r S) fun a=>bd (ih.e sc n F x a.s) fun b=>match b.s.hs with
  |.set hp'::q=>some ⟨(),⟨hp',q,b.s.g,Jd c n b.s.hp a.v b.v v hp'∧b.s.ob⟩,fun h=>have u:=b.ok ⟨h.g,h.ob.2⟩;have t:=a.ok u.1;⟨t.1,Be t.2 u.2 h.ob.1⟩⟩
  |_=>bd (Kn c n b.s.hp a.v b.v v) fun z=>some ⟨(),b.s.up z.hp z.g,fun h=>have w:=St.up_ok h;have u:=b.ok w.2;have t:=a.ok u.1;⟨t.1,Be t.2 u.2 (z.ok w.1)⟩⟩
 |.Tuple rs k p=>gd (rs.all bJ) fun hn=>w6 (dN v S.hp) (fun vs e=>gd (Nat.beq vs.length rs.length) fun hl=>bd (QD ih sc n F rs vs S) fun a=>some ⟨(),a.s,fun h=>have t:=a.ok h;⟨t.1,u8 hn hl e t.2⟩⟩)
  fun _=>tk (items v S.hp) fun vs e=>gd (Nat.beq vs.length rs.length) fun hl=>bd (QD ih sc n F rs vs S) fun a=>some ⟨(),a.s,fun h=>have t:=a.ok h;⟨t.1,LX hn hl e t.2⟩⟩
 |_=>none
noncomputable def Wu (t:Expr)(body:List Stmt)(base m:Nat):(S:St)→Option (Out S Fl (fun fl hp'=>Bl c sc n F t body base m S.hp fl hp')):=
 Nat.rec (fun _=>none) (fun _ R S=>bd (ih.t sc n F t S) fun a=>match a with
  |⟨false,s,ok⟩=>some ⟨.next,s,fun h=>have q:=ok h;⟨q.1,.stop q.2⟩⟩
  |⟨true,s,ok⟩=>bd (ih.x sc n F body s) fun b=>match QC b.v with
   |.on o=>bd (R b.s) fun d=>some ⟨d.v,d.s,fun h=>have w:=d.ok h;have u:=b.ok w.1;have q:=ok u.1;⟨q.1,.turn q.2 u.2 o .id w.2⟩⟩
   |.out fl' o=>some ⟨fl',b.s,fun h=>have u:=b.ok h;have q:=ok u.1;⟨q.1,.out q.2 u.2 o⟩⟩) m
noncomputable def Wv (g:Expr)(body:List Stmt)(base:Nat)(v:V)(m:Nat):(k:Nat)→(S:St)→Option (Out S Fl (fun fl hp'=>Bn c sc n F g body base v m k S.hp fl hp')):=
 Nat.rec (fun _ _=>none) (fun _ R k S=>tk (cN v S.hp) fun all e=>w6 (all[k]?) (fun y x=>bd (ih.g sc n F g y S) fun a=>bd (ih.x sc n F body a.s) fun b=>match QC b.v with
   |.on o=>bd (R (k+1) b.s) fun d=>some ⟨d.v,d.s,fun h=>have w:=d.ok h;have u:=b.ok w.1;have q:=a.ok u.1;⟨q.1,.turn e x q.2 u.2 o .id w.2⟩⟩
   |.out fl' o=>some ⟨fl',b.s,fun h=>have u:=b.ok h;have q:=a.ok u.1;⟨q.1,.out e x q.2 u.2 o⟩⟩)
  fun x=>some ⟨.next,S,fun h=>⟨h,.stop e x⟩⟩) m
noncomputable def UZ (ts:List Expr)(S:St):Option (Out S Bool (TsR c sc n F S.hp ts)):=match ts with
 | []=>some ⟨true,S,fun h=>⟨h,.nil⟩⟩
 | [t]=>bd (ih.t sc n F t S) fun a=>some ⟨a.v,a.s,fun h=>have q:=a.ok h;⟨q.1,.one q.2⟩⟩
 |_=>none
noncomputable def WL (g:Expr)(ts:List Expr)(r:Expr)(L:Nat)(v:V)(m:Nat):(k:Nat)→(S:St)→Option (Out S Unit (fun _ hp'=>sQ c sc n F g ts r L v m k S.hp hp')):=
 Nat.rec (fun _ _=>none) (fun _ R k S=>tk (cN v S.hp) fun all e=>w6 (all[k]?) (fun y x=>bd (ih.g sc n F g y S) fun a=>bd (UZ ih sc n F ts a.s) fun w=>match w with
   |⟨true,ws,wok⟩=>bd (ih.e sc n F r ws) fun b=>tk (b.s.hp[L]?.bind O.lstE) fun xs el=>
    bd (R (k+1) (b.s.up (b.s.hp.set L (.lst (xs++[b.v]))) (Nat.ble xs.length lim))) fun d=>some ⟨(),d.s,fun h=>have w:=d.ok h;have o:=St.up_ok w.1;have u:=b.ok o.2;have y:=wok u.1;have q:=a.ok y.1;⟨q.1,.turn e x q.2 y.2 u.2 el o.1 w.2⟩⟩
   |⟨false,ws,wok⟩=>bd (R (k+1) ws) fun d=>some ⟨(),d.s,fun h=>have w:=d.ok h;have y:=wok w.1;have q:=a.ok y.1;⟨q.1,.skip e x q.2 y.2 w.2⟩⟩)
  fun x=>some ⟨(),S,fun h=>⟨h,.stop e x⟩⟩) m
noncomputable def QE (re:Expr)(gs:List Comprehension)(scope:Scope)(pos:Pos)(S:St):Option (Out S V (RE c sc n F S.hp (.ListComp re gs scope pos))):=match gs with
 | [⟨rt,ri,ts,0⟩]=>gd (Lh scope ri F.cs) fun ok=>bd (ih.e sc n F ri S) fun a=>gd (qN a.v) fun hr=>gd (cN a.v a.s.hp).isSome fun hi=>
  bd (WL ih (fB sc scope.names) n ⟨a.s.hp.length+1,eJ F.cs (b5 scope.names),false⟩ rt ts re a.s.hp.length a.v Hc 0 ⟨a.s.hp++[.lst [],.fr []],a.s.hs,a.s.g,a.s.ob⟩) fun b=>tk (b.s.hp[a.s.hp.length+1]?.bind O.frE) fun es e=>
  some ⟨.ref a.s.hp.length,b.s.up (b.s.hp.set (a.s.hp.length+1) .gone) true,fun h=>have o:=St.up_ok h;have u:=b.ok o.2;have q:=a.ok ⟨u.1.g,u.1.ob⟩;⟨q.1,lU (jP ok) q.2 hr hi u.2 e⟩⟩
 |_=>none
noncomputable def QF (y:Str)(px:Pos)(re:Expr)(gs:List Comprehension)(scope:Scope)(pos p:Pos)(S:St):Option (Out S Fl (RS c sc n F S.hp (.Assign [.Name y px] (.ListComp re gs scope pos) p))):=match gs with
 | [⟨rt,ri,ts,0⟩]=>gd (Lh scope ri F.cs) fun ok=>gd (jM sc y px (.ListComp re [⟨rt,ri,ts,0⟩] scope pos)) fun hw=>gd (b6 (pC sc y.cps.toList)) fun hk=>bd (ih.e sc n F ri S) fun a=>gd (qN a.v) fun hr=>gd (cN a.v a.s.hp).isSome fun hi=>
  bd (WL ih (fB sc scope.names) n ⟨a.s.hp.length+1,eJ F.cs (b5 scope.names),false⟩ rt ts re a.s.hp.length a.v Hc 0 ⟨a.s.hp++[.lst [],.fr []],a.s.hs,a.s.g,a.s.ob⟩) fun b=>tk (eH F y.cps.toList (.ref a.s.hp.length) b.s.hp) fun hp3 t=>tk (hp3[a.s.hp.length+1]?.bind O.frE) fun es e=>
  some ⟨.next,b.s.up (hp3.set (a.s.hp.length+1) .gone) true,fun h=>have o:=St.up_ok h;have u:=b.ok o.2;have q:=a.ok ⟨u.1.g,u.1.ob⟩;⟨q.1,LY (jP ok) q.2 hr hi u.2 hw (dB (b9 hk)) t e⟩⟩
 |_=>none
noncomputable def QG:(vs:List V)→Option ((v1:V)×(v2:V)×PLift (vs=[v1,v2]))
 | [v1,v2]=>some ⟨v1,v2,⟨rfl⟩⟩
 |_=>none
noncomputable def QH (a:Str)(pa:Pos)(b:Str)(pb:Pos)(k:Nat)(p:Pos)(x y:Expr)(k':Nat)(p' pos:Pos)(S:St):Option (Out S Fl (RS c sc n F S.hp (.Assign [.Tuple [.Name a pa,.Name b pb] k p] (.Tuple [x,y] k' p') pos))):=
 gd (b6 (pC sc a.cps.toList)) fun ha=>gd (b6 (pC sc b.cps.toList)) fun hb=>bd (ih.e sc n F (.Tuple [x,y] k' p') S) fun d=>tk (dN d.v d.s.hp) fun vs e=>bd (QG vs) fun w=>tk (eH F b.cps.toList w.2.1 d.s.hp) fun hp2 t1=>tk (eH F a.cps.toList w.1 hp2) fun hp3 t2=>
 some ⟨.next,⟨hp3,d.s.hs,d.s.g,lL sc (.Assign [.Tuple [.Name a pa,.Name b pb] k p] (.Tuple [x,y] k' p') pos)=vV a b∧d.s.ob⟩,fun h=>have q:=d.ok ⟨h.g,h.ob.2⟩;⟨q.1,Li ha hb h.ob.1 q.2 (w.2.2.down▸e) t1 t2⟩⟩
noncomputable def Hd:(vs:List V)→Option ((v1:V)×(v2:V)×(v3:V)×PLift (vs=[v1,v2,v3]))
 | [v1,v2,v3]=>some ⟨v1,v2,v3,⟨rfl⟩⟩
 |_=>none
noncomputable def QI (a:Str)(pa:Pos)(b:Str)(pb:Pos)(d:Str)(pd:Pos)(k:Nat)(p:Pos)(x y w:Expr)(k':Nat)(p' pos:Pos)(S:St):Option (Out S Fl (RS c sc n F S.hp (.Assign [.Tuple [.Name a pa,.Name b pb,.Name d pd] k p] (.Tuple [x,y,w] k' p') pos))):=
 gd (b6 (pC sc a.cps.toList)) fun ha=>gd (b6 (pC sc b.cps.toList)) fun hb=>gd (b6 (pC sc d.cps.toList)) fun hd=>bd (ih.e sc n F (.Tuple [x,y,w] k' p') S) fun e0=>tk (dN e0.v e0.s.hp) fun vs e=>bd (Hd vs) fun w0=>tk (eH F d.cps.toList w0.2.2.1 e0.s.hp) fun hp2 t1=>tk (eH F b.cps.toList w0.2.1 hp2) fun hp3 t2=>tk (eH F a.cps.toList w0.1 hp3) fun hp4 t3=>
 some ⟨.next,⟨hp4,e0.s.hs,e0.s.g,lL sc (.Assign [.Tuple [.Name a pa,.Name b pb,.Name d pd] k p] (.Tuple [x,y,w] k' p') pos)=sU a b d∧e0.s.ob⟩,fun h=>have q:=e0.ok ⟨h.g,h.ob.2⟩;⟨q.1,Lj ha hb hd h.ob.1 q.2 (w0.2.2.2.down▸e) t1 t2 t3⟩⟩
noncomputable def QJ (g r:Expr)(p:Pos)(S:St):Option (Out S Fl (RS c sc n F S.hp (.Assign [g] r p))):=match UN sc g r with
 |.plain hs=>gd (bJ g&&jI r) fun h0=>bd (ih.e sc n F r S) fun a=>bd (ih.g sc n F g a.v a.s) fun b=>some ⟨.next,b.s,fun h=>have q:=b.ok h;have t:=a.ok q.1;⟨t.1,LQ h0 hs t.2 q.2⟩⟩
 |.no=>match g,r with
  |.Tuple [.Name a pa,.Name b pb] k p1,.Tuple [x,y] k' p'=>QH ih sc n F a pa b pb k p1 x y k' p' p S
  |.Tuple [.Name a pa,.Name b pb,.Name d pd] k p1,.Tuple [x,y,w] k' p'=>QI ih sc n F a pa b pb d pd k p1 x y w k' p' p S
  |_,_=>none
noncomputable def QK (g r:Expr)(p:Pos)(S:St):Option (Out S Fl (RS c sc n F S.hp (.Assign [g] r p))):=match r with
 |.ListComp re gs scope pos=>match g with
  |.Name y px=>QF ih sc n F y px re gs scope pos p S
  |_=>none
 |r=>QJ ih sc n F g r p S
noncomputable def QL (g:Expr)(o:Operator)(r:Expr)(p:Pos)(S:St):Option (Out S Fl (RS c sc n F S.hp (.AugAssign g o r p))):=bd (WK o) fun k=>match g with
 |.Name q px=>gd (b6 (pC sc q.cps.toList)) fun hk=>tk (zQ F q.cps.toList S.hp) fun u e=>bd (ih.e sc n F r S) fun b=>bd (Km c n b.s.hp k.op u b.v) fun z=>tk (eH F q.cps.toList z.v z.hp) fun hp3 t=>
  some ⟨.next,b.s.up hp3 z.g,fun h=>have w:=St.up_ok h;have q':=b.ok w.2;⟨q'.1,HY k.e (dB (b9 hk)) e q'.2 (z.ok w.1) t⟩⟩
 |.Attribute l q px=>bd (ih.e sc n F l S) fun a=>bd (Ol c n a.s.hp a.v q.cps.toList) fun x=>bd (ih.e sc n F r (a.s.up x.hp x.g)) fun b=>bd (Km c n b.s.hp k.op x.v b.v) fun z=>bd (Om c n z.hp a.v q.cps.toList z.v) fun y=>
  some ⟨.next,(b.s.up z.hp z.g).up y.hp y.g,fun h=>have w:=St.up_ok h;have w1:=St.up_ok w.2;have q':=b.ok w1.2;have u:=St.up_ok q'.1;have t:=a.ok u.2;⟨t.1,HZ k.e t.2 (x.ok u.1) q'.2 (z.ok w1.1) (y.ok w.1)⟩⟩
 |.Subscript l x px=>gd (gL x) fun hn=>bd (ih.e sc n F l S) fun a=>bd (ih.e sc n F x a.s) fun i=>bd (Oq c n i.s.hp a.v i.v) fun d=>bd (ih.e sc n F r (i.s.up d.hp d.g)) fun b=>bd (Km c n b.s.hp k.op d.v b.v) fun z=>bd (Kn c n z.hp a.v i.v z.v) fun y=>
  some ⟨.next,(b.s.up z.hp z.g).up y.hp y.g,fun h=>have w:=St.up_ok h;have w1:=St.up_ok w.2;have q':=b.ok w1.2;have u:=St.up_ok q'.1;have j:=i.ok u.2;have t:=a.ok j.1;⟨t.1,Ha k.e hn t.2 j.2 (d.ok u.1) q'.2 (z.ok w1.1) (y.ok w.1)⟩⟩
 |_=>none
noncomputable def Ua (r:Expr)(ts ts2:List Stmt)(p:Pos)(S:St):Option (Out S Fl (RS c sc n F S.hp (.If r ts ts2 p))):=bd (ih.t sc n F r S) fun a=>match a with
 |⟨true,s,ok⟩=>bd (ih.x sc n F ts s) fun y=>some ⟨y.v,y.s,fun h=>have w:=y.ok h;have t:=ok w.1;⟨t.1,Bc t.2 (fun _=>w.2) nofun⟩⟩
 |⟨false,s,ok⟩=>bd (ih.x sc n F ts2 s) fun y=>some ⟨y.v,y.s,fun h=>have w:=y.ok h;have t:=ok w.1;⟨t.1,Bc t.2 nofun fun _=>w.2⟩⟩
noncomputable def QM (g i:Expr)(body:List Stmt)(p:Pos)(S:St):Option (Out S Fl (RS c sc n F S.hp (.For g i body [] p))):=gd (kQ i) fun hf=>bd (ih.e sc n F i S) fun a=>gd (qN a.v) fun hr=>gd (cN a.v a.s.hp).isSome fun hi=>bd (Wv ih sc n F g body a.s.hp.length a.v Hc 0 a.s) fun b=>
  some ⟨b.v,b.s,fun h=>have q:=b.ok h;have t:=a.ok q.1;⟨t.1,kP (fun env x=>bW hf env x) t.2 hr hi q.2⟩⟩
noncomputable def He (t:Stmt)(S:St):Option (Out S Fl (RS c sc n F S.hp t)):=match t with
 |.Expr r p=>gd (jI r) fun hc=>bd (ih.e sc n F r S) fun a=>some ⟨.next,a.s,fun h=>have q:=a.ok h;⟨q.1,LJ hc q.2⟩⟩
 |.Assign [g] r p=>QK ih sc n F g r p S
 |.AugAssign g o r p=>QL ih sc n F g o r p S
 |.If r ts ts2 p=>Ua ih sc n F r ts ts2 p S
 |.While r body [] p=>bd (Wu ih sc n F r body S.hp.length Hc S) fun a=>some ⟨a.v,a.s,fun h=>have q:=a.ok h;⟨q.1,vI q.2⟩⟩
 |.For g i body [] p=>QM ih sc n F g i body p S
 |.Return (some r) p=>bd (ih.e sc n F r S) fun a=>some ⟨.ret a.v,a.s,fun h=>have q:=a.ok h;⟨q.1,LK q.2⟩⟩
 |.Return none p=>some ⟨.ret (.dat .non),S,fun h=>⟨h,Hb⟩⟩
 |.Break p=>some ⟨.brk,S,fun h=>⟨h,LM⟩⟩
 |.Pass p=>some ⟨.next,S,fun h=>⟨h,LN⟩⟩
 |.Try body (_::_) [] [] _=>bd (ih.x sc n F body S) fun a=>some ⟨a.v,a.s,fun h=>have q:=a.ok h;⟨q.1,LV q.2⟩⟩
 |.Assert r o p=>bd (ih.t sc n F r S) fun a=>match a with
  |⟨true,s,ok⟩=>some ⟨.next,s,fun h=>have q:=ok h;⟨q.1,LO q.2⟩⟩
  |_=>none
 |_=>none
noncomputable def WM (t:Stmt)(S:St):Option (Out S Fl (RS c sc n F S.hp t)):=match S.hs with
 |.stm l fl hp'::r=>match Nat.beq t.pos.line l with
  |true=>some ⟨fl,⟨hp',r,S.g,RS c sc n F S.hp t fl hp'∧S.ob⟩,fun h=>⟨⟨h.g,h.ob.2⟩,h.ob.1⟩⟩
  |false=>He ih sc n F t S
 |.led l hp'::r=>match Nat.beq t.pos.line l with
  |true=>bd (He ih sc n F t ⟨hp',r,S.g,S.hp=hp'∧S.ob⟩) fun a=>some ⟨a.v,a.s,fun h=>have q:=a.ok h;⟨⟨q.1.g,q.1.ob.2⟩,q.1.ob.1▸q.2⟩⟩
  |false=>He ih sc n F t S
 |_=>He ih sc n F t S
noncomputable def Ww (ts:List Stmt):(S:St)→Option (Out S Fl (RX c sc n F S.hp ts)):=
 List.rec (fun S=>some ⟨.next,S,fun h=>⟨h,u0⟩⟩) (fun t _ R S=>bd (WM ih sc n F t S) fun a=>match UY a.v with
  |.on e=>bd (R a.s) fun b=>some ⟨b.v,b.s,fun h=>have q:=b.ok h;have t:=a.ok q.1;⟨t.1,cI (e▸t.2) q.2⟩⟩
  |.out g=>some ⟨a.v,a.s,fun h=>have t:=a.ok h;⟨t.1,HE t.2 g⟩⟩) ts
noncomputable def Ub (r:Expr)(S:St):Option (Out S V (RE c sc n F S.hp r)):=match r with
 |.Constant v k p=>Pb sc n F k p S v
 |.Name q p=>Pd sc n F q p S
 |.Attribute r a p=>Pe ih sc n F r a p S
 |.Call g rs [] p=>Pk ih sc n F g rs p S
 |.Call (.Attribute r a ap) [] kws p=>UV ih sc n F r a ap kws p S
 |.Subscript r x p=>Pn ih sc n F r x p S
 |.BinOp l o r p=>Po ih sc n F l o r p S
 |.UnaryOp o r p=>Pq ih sc n F o r p S
 |.Compare r os xs p=>bd (Jj ih sc n F r os xs p S) fun a=>some ⟨.dat (.boo a.v),a.s,fun h=>have q:=a.ok h;⟨q.1,q.2.1⟩⟩
 |.BoolOp op rs p=>bd (Px ih sc n F op p rs S) fun a=>some ⟨a.v,a.s,fun h=>have q:=a.ok h;⟨q.1,Gz q.2⟩⟩
 |.IfExp r l x p=>Pz ih sc n F r l x p S
 |.List rs p=>Pr ih sc n F rs p S
 |.Tuple rs k p=>Ps ih sc n F rs k p S
 |.Dict ks rs p=>QB ih sc n F ks rs p S
 |.ListComp re gs scope p=>QE ih sc n F re gs scope p S
 |_=>none
noncomputable def Wx (r:Expr)(S:St):Option (Out S V (RE c sc n F S.hp r)):=
 let usual:Option (Out S V (RE c sc n F S.hp r)):=bd (Ub ih sc n F r S) fun a=>some (PT r.pos a)
 match S.hs with
 |.exp k v hp'::q=>match at_ r.pos k with
  |true=>some ⟨v,⟨hp',q,S.g,RE c sc n F S.hp r v hp'∧S.ob⟩,fun h=>⟨⟨h.g,h.ob.2⟩,h.ob.1⟩⟩
  |false=>usual
 |_=>usual
noncomputable def QN (r:Expr)(S:St):Option (Out S Bool (RB c sc n F S.hp r)):=gd (PK r) fun hv=>bd (ih.e sc n F r S) fun a=>bd (Kl c n a.s.hp a.v) fun z=>some ⟨z.v,a.s.up z.hp z.g,fun h=>have q:=St.up_ok h;have t:=a.ok q.2;⟨t.1,Gv (fun env wh=>HM hv env wh) t.2 (z.ok q.1)⟩⟩
noncomputable def Uc (r:Expr)(S:St):Option (Out S Bool (RB c sc n F S.hp r)):=match r with
 |.Constant (.bool b) k p=>some ⟨b,S,fun h=>⟨h,Gw⟩⟩
 |.UnaryOp .Not r p=>bd (ih.t sc n F r S) fun a=>some ⟨!a.v,a.s,fun h=>have q:=a.ok h;⟨q.1,Gy q.2⟩⟩
 |.Compare r os xs p=>bd (Jj ih sc n F r os xs p S) fun a=>some ⟨a.v,a.s,fun h=>have q:=a.ok h;⟨q.1,q.2.2⟩⟩
 |.BoolOp op rs p=>bd (Py ih sc n F op rs S) fun a=>some ⟨a.v,a.s,fun h=>have q:=a.ok h;⟨q.1,HB q.2⟩⟩
 |.IfExp r l x p=>bd (ih.t sc n F r S) fun a=>match a with
  |⟨true,s,ok⟩=>bd (ih.t sc n F l s) fun y=>some ⟨y.v,y.s,fun h=>have w:=y.ok h;have t:=ok w.1;⟨t.1,xW t.2 (fun _=>w.2) nofun⟩⟩
  |⟨false,s,ok⟩=>bd (ih.t sc n F x s) fun y=>some ⟨y.v,y.s,fun h=>have w:=y.ok h;have t:=ok w.1;⟨t.1,xW t.2 nofun fun _=>w.2⟩⟩
 |r=>QN ih sc n F r S
noncomputable def Wy (r:Expr)(S:St):Option (Out S Bool (RB c sc n F S.hp r)):=bd (Uc ih sc n F r S) fun a=>some (CW r.pos a)
end
noncomputable def Ev.nil (c:Cx):Ev c:=⟨fun _ _ _ _ _=>none,fun _ _ _ _ _=>none,fun _ _ _ _ _=>none,fun _ _ _ _ _ _=>none,fun _ _ _ _=>none,fun _ _ _ _=>none⟩
noncomputable def Ev.step {c:Cx}(tab:Tab c)(ih:Ev c):Ev c:=⟨fun sc n F r S=>Wx ih sc n F r S,fun sc n F r S=>Wy ih sc n F r S,fun sc n F r S=>Ww ih sc n F r S,fun sc n F r v S=>Ws ih sc n F r v S,fun n f args S=>US ih n f args S,fun n f args S=>Lu tab ih n f args S⟩
noncomputable def ev {c:Cx}(tab:Tab c)(k:Nat):Ev c:=Nat.rec (Ev.nil c) (fun _ ih=>ih.step tab) k
end
section
noncomputable def yA:List Nat→List Stmt→Option (Arguments×Scope×List Stmt)
 | [],_=>none
 |i::r,body=>match r,body[i]? with
  | [],some (.FunctionDef _ a b _ _ _ sc _ _ _)=>some (a,sc,b)
  |r,some (.ClassDef _ _ _ b _ _ _ _ _ _ _)=>yA r b
  |_,_=>none
noncomputable def kS (p:Program)(path:List Nat)(dflt:List V):Fn:=match yA path p.main.body with
 |some (a,sc,b)=>⟨a.args.map fun x=>x.arg.cps.toList,dflt,b8 sc.names,sc.names,b⟩
 |none=>⟨[],[],[],[],[]⟩
noncomputable def Ue:List Stmt→GenX
 | [s1,.While t1 [.While t2 [.Expr (.Yield (some e2) qy) qe] [] p2,.While t3 [.Expr (.Yield (some e3) py) pe] [] p3] [] p1]=>⟨s1,⟨t1,t2,e2,t3,e3⟩,p1,p2,p3,pe,py,qe,qy⟩
 |_=>⟨.Pass ⟨0,0,0,0⟩,⟨.Constant .none 0 ⟨0,0,0,0⟩,.Constant .none 0 ⟨0,0,0,0⟩,.Constant .none 0 ⟨0,0,0,0⟩,.Constant .none 0 ⟨0,0,0,0⟩,.Constant .none 0 ⟨0,0,0,0⟩⟩,⟨0,0,0,0⟩,⟨0,0,0,0⟩,⟨0,0,0,0⟩,⟨0,0,0,0⟩,⟨0,0,0,0⟩,⟨0,0,0,0⟩,⟨0,0,0,0⟩⟩
structure Zc (p:Program) (G:Gam) (tl:List (Nat×Fn)) where
 w:World
 K:Frag
 top:Top w.params K G
 tab:∀ a F,(a,F)∈tl→FnD w.params K a F
section
variable {p:Program}{G:Gam}{tl:List (Nat×Fn)}(z:Zc p G tl)
noncomputable def Zc.c:Cx:=⟨p,z.w,z.K,G,z.top⟩
noncomputable def Zc.t:Tab z.c:=⟨tl,z.tab⟩
noncomputable def Zc.ev:Ev z.c:=Tk.ev z.t 4000
end
noncomputable def V.lb:V→List Nat
 |.ref l=>[l]
 |.mth _ l=>[l]
 |_=>[]
noncomputable def O.lb:O→List Nat
 |.lst xs=>xs.flatMap V.lb
 |.tup xs=>xs.flatMap V.lb
 |.ns es=>es.flatMap fun x=>x.2.lb
 |.cel (some v)=>v.lb
 |.ins _ d=>[d]
 |_=>[]
noncomputable def Uf (k:Nat)(hp:List O):Nat→List Nat→List Nat→List Nat
 |0,_,seen=>seen
 |_+1,[],seen=>seen
 |m+1,l::r,seen=>match Nat.blt l k||dT seen l with
  |true=>Uf k hp m r seen
  |false=>Uf k hp m ((hp[l]?.getD .gone).lb++r) (seen++[l])
noncomputable def auto (k:Nat)(v:V)(hp:List O):List Nat:=Uf k hp 1000 (v.lb++(hp.take k).flatMap O.lb) []
inductive Fo where
 |fz (fz τ:List Nat)
 |auto
noncomputable def Jk (k:Nat)(o:Fo)(v:V)(hp:List O):Option (V×List O):=match o with
 |.fz fz τ=>gJ k fz τ v hp
 |.auto=>gJ k [] (auto k v hp) v hp
theorem vY {c:Cx}{n f:Nat}{args:List V}{hp hp2:List O}{v:V}{o:Fo}{p:V×List O}(h:CallOk c n f args hp v hp2)(e:Jk hp.length o v hp2=some p):CallOk c n f args hp p.1 p.2:=by
 cases o with
 |fz fz τ=>exact kJ h e
 |auto=>exact kJ h e
structure An (β:Type) where
 v:β
 hp:List O
 g:Bool
 ob:Prop
noncomputable def sV (hs:List Hi):Bool:=match hs with
 | []=>true
 |_=>false
section
variable {p:Program}{G:Gam}{tl:List (Nat×Fn)}(z:Zc p G tl)
noncomputable def Zc.run (n f:Nat)(args:List V)(hp:List O)(hs:List Hi)(o:Fo):Option (An V):=bd (AJ z.t z.ev n f args ⟨hp,hs,true,True⟩) fun a=>gd (sV a.s.hs) fun _=>bd (Jk hp.length o a.v a.s.hp) fun p=>some ⟨p.1,p.2,a.s.g,a.s.ob⟩
theorem dP {α β:Type}{f:α→Option β}{x:Option α}{y:β}(h:bd x f=some y):∃ z,x=some z∧f z=some y:=by
 cases x with
 |none=>cases h
 |some z=>exact⟨z,rfl,h⟩
theorem mY {α:Type}{b:Bool}{f:b=true→Option α}{y:α}(h:gd b f=some y):∃ e,f e=some y:=by
 cases b with
 |true=>exact⟨rfl,h⟩
 |false=>cases h
theorem Zc.use {n f:Nat}{args:List V}{hp hp':List O}{hs:List Hi}{o:Fo}{v:V}{g:Bool}{ob:Prop}(hg:g=true)(ho:ob)(e:z.run n f args hp hs o=some ⟨v,hp',g,ob⟩):CallOk z.c n f args hp v hp':=by
 obtain⟨a,e1,e⟩:=dP e
 obtain⟨_,e⟩:=mY e
 obtain⟨q,e2,e⟩:=dP e
 cases e
 exact vY (a.ok ⟨hg,ho⟩).2 e2
noncomputable def Zc.runT (n:Nat)(sc:aG)(F:Fx)(r:Expr)(hp:List O)(hs:List Hi):Option (An Bool):=bd (z.ev.t sc n F r ⟨hp,hs,true,True⟩) fun a=>gd (sV a.s.hs) fun _=>some ⟨a.v,a.s.hp,a.s.g,a.s.ob⟩
noncomputable def Zc.runE (n:Nat)(sc:aG)(F:Fx)(r:Expr)(hp:List O)(hs:List Hi):Option (An V):=bd (z.ev.e sc n F r ⟨hp,hs,true,True⟩) fun a=>gd (sV a.s.hs) fun _=>some ⟨a.v,a.s.hp,a.s.g,a.s.ob⟩
noncomputable def Zc.runX (n:Nat)(sc:aG)(F:Fx)(r:List Stmt)(hp:List O)(hs:List Hi):Option (An Fl):=bd (z.ev.x sc n F r ⟨hp,hs,true,True⟩) fun a=>gd (sV a.s.hs) fun _=>some ⟨a.v,a.s.hp,a.s.g,a.s.ob⟩
noncomputable def Zc.runS (n:Nat)(sc:aG)(F:Fx)(r:Stmt)(hp:List O)(hs:List Hi):Option (An Fl):=bd (WM z.ev sc n F r ⟨hp,hs,true,True⟩) fun a=>gd (sV a.s.hs) fun _=>some ⟨a.v,a.s.hp,a.s.g,a.s.ob⟩
section
variable {z}{n:Nat}{sc:aG}{F:Fx}{hp hp':List O}{hs:List Hi}{g:Bool}{ob:Prop}(hg:g=true)(ho:ob)
include hg ho
theorem Zc.useT {r:Expr}{b:Bool}(e:z.runT n sc F r hp hs=some ⟨b,hp',g,ob⟩):RB z.c sc n F hp r b hp':=by
 obtain⟨a,e1,e⟩:=dP e
 obtain⟨_,e⟩:=mY e
 cases e
 exact(a.ok ⟨hg,ho⟩).2
theorem Zc.useE {r:Expr}{v:V}(e:z.runE n sc F r hp hs=some ⟨v,hp',g,ob⟩):RE z.c sc n F hp r v hp':=by
 obtain⟨a,e1,e⟩:=dP e
 obtain⟨_,e⟩:=mY e
 cases e
 exact(a.ok ⟨hg,ho⟩).2
theorem Zc.useX {r:List Stmt}{fl:Fl}(e:z.runX n sc F r hp hs=some ⟨fl,hp',g,ob⟩):RX z.c sc n F hp r fl hp':=by
 obtain⟨a,e1,e⟩:=dP e
 obtain⟨_,e⟩:=mY e
 cases e
 exact(a.ok ⟨hg,ho⟩).2
theorem Zc.useS {r:Stmt}{fl:Fl}(e:z.runS n sc F r hp hs=some ⟨fl,hp',g,ob⟩):RS z.c sc n F hp r fl hp':=by
 obtain⟨a,e1,e⟩:=dP e
 obtain⟨_,e⟩:=mY e
 cases e
 exact(a.ok ⟨hg,ho⟩).2
end
end
noncomputable def fC:Pos:=⟨0,0,0,0⟩
noncomputable def fG (b:List Stmt)(k:Nat):Stmt:=b[k]?.getD (.Pass fC)
structure ForI where
 y:Str
 px:Pos
 i:Expr
 b:List Stmt
 p:Pos
noncomputable def Hf:Stmt→ForI
 |.For (.Name y px) i b [] p=>⟨y,px,i,b,p⟩
 |_=>⟨⟨#[]⟩,fC,.Constant .none 0 fC,[],fC⟩
noncomputable def ForI.g (f:ForI):Expr:=.Name f.y f.px
noncomputable def ForI.s (f:ForI):Stmt:=.For (.Name f.y f.px) f.i f.b [] f.p
structure WhlI where
 t:Expr
 b:List Stmt
 p:Pos
noncomputable def QO:Stmt→WhlI
 |.While t b [] p=>⟨t,b,p⟩
 |_=>⟨.Constant .none 0 fC,[],fC⟩
noncomputable def WhlI.s (f:WhlI):Stmt:=.While f.t f.b [] f.p
end
section
inductive ItS (h:Heap) (it:Addr) (x:Nm) (k:Nat):Prop
 |mk (ty:String) (t:Tok) (hty:ty="str_ascii_iterator" ∨ty="str_iterator") (I:h.IsStrIter it ty (st x) t k)
theorem ItS.at {h h':Heap}{it:Addr}{x:Nm}{k:Nat}(i:ItS h it x k)(f:∀ o,h.get? it=some o→h'.get? it=some o):ItS h' it x k:=(by rcases i with⟨ty,t,hty,⟨o,a,b⟩⟩;exact .mk ty t hty ⟨o,f o a,b⟩)
theorem ItS.cps (x:Nm)(k:Nat):(st x).cps[k]? =x[k]? :=List.getElem?_toArray ..
section
variable {prog:Program}{w:World}{A:Around}{E:Value→Shared→Prop}{s:Shared}{x:Nm}{k:Nat}{it:Addr}
theorem sW {a:Nat}{Q:Value→Shared→Prop}(i:ItS s.heap it x k)(hx:x[k]? =some a)(h:∀ h',ItS h' it x (k+1)→Heap.SameBut it s.heap h'→Q (.str (st [a]) s.toks) {s with heap:=h',toks:=s.toks+1}):wpAny (model prog w) A (Builtin.SmallTypes.nextOf (.ref it)) Q E s:=by
 obtain⟨ty,t,rfl|rfl,I⟩:=i
 ·exact wpAny_nextOf_ascii_item I ((ItS.cps x k).trans hx) fun h' I' sb=>h h' (.mk _ t (.inl rfl) I') sb
 ·exact wpAny_nextOf_wide_item I ((ItS.cps x k).trans hx) fun h' I' sb=>h h' (.mk _ t (.inr rfl) I') sb
theorem Hg {Q:Value→Shared→Prop}(hh:A.handled=none)(i:ItS s.heap it x k)(hx:x[k]? =none)(h:∀ h' e,Heap.ExtBut it s.heap h'→(∃ o,h'.get? e=some o∧o.cls=.type "StopIteration")→E (.ref e) {s with heap:=h'}):wpAny (model prog w) A (Builtin.SmallTypes.nextOf (.ref it)) Q E s:=by
 obtain⟨ty,t,rfl|rfl,I⟩:=i
 ·exact wpAny_nextOf_ascii_end hh I ((ItS.cps x k).trans hx) h
 ·exact wpAny_nextOf_wide_end hh I ((ItS.cps x k).trans hx) h
end
structure ZH (n:Nat) (x y:Nm) (k:Nat) (f0:Value) (h:Heap):Prop where
 z:IsZip h (n+4) (n+2) (n+3) f0
 i:IsPair h (n+2) (.ref n) (.ref (n+1))
 o:∃ a b,IsPair h (n+3) a b
 a:ItS h n x k
 b:ItS h (n+1) y k
noncomputable def Five (n:Nat)(h h':Heap):Prop:=∀ (c:Nat) o,(c<n∨n+5≤c)→h.get? c=some o→h'.get? c=some o
theorem iL {a b:Nat}(h:a≠b): @Ne Addr a b:=h
theorem na {n a b:Nat}(h:Nat.beq a b=false): @Ne Addr (n+a) (n+b):=fun q=>Nat.ne_of_beq_eq_false h (Nat.add_left_cancel q)
theorem MA {h:Heap}{e p q:Addr}{o:Obj}{f:Value}(g:h.get? e=some o)(z:IsZip h e p q f)(c:o.cls=.type "StopIteration"):False:=by
 rw[show h.get? e=_ from z]at g
 cases g
 exact absurd c (by simp)
theorem Five.of {n:Nat}{h h':Heap}(f:∀ (c:Nat) o,c≠n+4→c≠n+3→c≠n→c≠n+1→h.get? c=some o→h'.get? c=some o):Five n h h':=fun c o q e=>f c o (by lia) (by lia) (by lia) (by lia) e
section
variable {prog:Program}{w:World}{A:Around}{E:Value→Shared→Prop}{s:Shared}{x y:Nm}{k n:Nat}
theorem yB {a:Nat}{Q:Value→Shared→Prop}(hh:A.handled=none)(Z:ZH n x y k .none s.heap)(hx:x[k]? =some a)
  (hQ:∀ b h' t',y[k]? =some b→ZH n x y (k+1) (rawInt s.heap.objs.size) h'→IsPair h' s.heap.objs.size (.str (st [a]) s.toks) (.str (st [b]) (s.toks+1))→Five n s.heap h'→Q (.ref s.heap.objs.size) {s with heap:=h',toks:=t'})
  (hE:∀ h' e t',y[k]? =none→Five n s.heap h'→(∃ o,h'.get? e=some o∧o.cls=.type "StopIteration")→E (.ref e) {s with heap:=h',toks:=t'}):
  wpAny (model prog w) A (Builtin.«zip.__next__» ⟨[.ref (n+4)],[]⟩) (fun fin s'=>∃ v,fin=.done (.ret v)∧Q v s') E s:=by
 obtain⟨hz,hTI,⟨u,v,hTO⟩,h1,h2⟩:=Z
 have d01: @Ne Addr n (n+1):=na (a:=0) rfl
 have d02: @Ne Addr n (n+2):=na (a:=0) rfl
 have d03: @Ne Addr n (n+3):=na (a:=0) rfl
 have d04: @Ne Addr n (n+4):=na (a:=0) rfl
 have d12: @Ne Addr (n+1) (n+2):=na rfl
 have d13: @Ne Addr (n+1) (n+3):=na rfl
 have d14: @Ne Addr (n+1) (n+4):=na rfl
 have d23: @Ne Addr (n+2) (n+3):=na rfl
 have d24: @Ne Addr (n+2) (n+4):=na rfl
 have d34: @Ne Addr (n+3) (n+4):=na rfl
 show wpAny _ _ (field (.ref (n+4)) 2 >>= _) _ _ _
 refine bK (wpAny_field hz rfl (x:=.bool false) rfl ?_)
 show wpAny _ _ (field (.ref (n+4)) 3 >>= _) _ _ _
 refine bK (wpAny_field hz rfl (x:=.ref (n+2)) rfl ?_)
 refine bK (wpAny_seqItems hTI rfl ?_)
 show wpAny _ _ (Builtin.SmallTypes.ownedTupleIsFree (.ref (n+4)) >>= _) _ _ _
 refine bK ?_
 unfold Builtin.SmallTypes.ownedTupleIsFree
 refine bK (wpAny_field hz rfl (x:=.none) rfl (wpAny_pure ?_))
 simp only[if_true]
 refine bK (wpAny_rule ?_)
 refine bK (wpAny_field hz rfl (x:=.ref (n+3)) rfl ?_)
 refine bK (wpAny_setField_rec hz (by simp) fun h₁ hz₁ hs₁=>?_)
 replace hz₁:IsZip h₁ (n+4) (n+2) (n+3) .ellipsis:=hz₁
 have k1:=aL hs₁
 refine bK ?_
 simp only[List.zipIdx_cons,List.zipIdx_nil,List.forIn_cons,List.forIn_nil]
 refine bK (bK (wpAny_onRaise ?_))
 show wpAny _ _ (Builtin.SmallTypes.nextOf (.ref n) >>= _) _ _ _
 refine bK (sW (s:={s with heap:=h₁}) (h1.at fun o e=>k1 _ o d04 e) hx fun h₂ h1₂ hs₂=>wpAny_pure ?_)
 have k2:=aL hs₂
 have hTO₂:IsPair h₂ (n+3) u v:=k2 _ _ d03.symm (k1 _ _ d34 hTO)
 refine bK (wpAny_seqItems hTO₂ rfl ?_)
 refine bK (wpAny_updateSeq_pair hTO₂ fun h₃ hTO₃ hs₃=>?_)
 replace hTO₃:IsPair h₃ (n+3) (.str (st [a]) s.toks) v:=hTO₃
 have k3:=aL hs₃
 refine bK (wpAny_letGo (wpAny_pure ?_))
 refine bK (bK (wpAny_onRaise ?_))
 show wpAny _ _ (Builtin.SmallTypes.nextOf (.ref (n+1)) >>= _) _ _ _
 have h2₃:ItS h₃ (n+1) y k:=h2.at fun o e=>k3 _ o d13 (k2 _ o d01.symm (k1 _ o d14 e))
 have hz₃:IsZip h₃ (n+4) (n+2) (n+3) .ellipsis:=k3 _ _ d34.symm (k2 _ _ d04.symm hz₁)
 cases hy:y[k]? with
 |none=>
  refine bK (Hg (s:={s with heap:=h₃,toks:=s.toks+1}) hh h2₃ hy fun h₄ e k4 he=>?_)
  obtain⟨oe,hoe,hce⟩:=he
  have hz₄:IsZip h₄ (n+4) (n+2) (n+3) .ellipsis:=k4 _ _ d14.symm hz₃
  have hez:e≠n+4:=fun q=>MA (q▸hoe) hz₄ hce
  exact wpAny_setField_rec hz₄ (by simp) fun h₅ _ hs₅=>hE h₅ e _ hy (.of fun(c:Nat) o c1 c2 c3 c4 q=>aL hs₅ _ _ c1 (k4 _ _ c4 (k3 _ _ c2 (k2 _ _ c3 (k1 _ _ c1 q))))) ⟨oe,aL hs₅ _ _ hez hoe,hce⟩
 |some b=>
  refine bK (sW (s:={s with heap:=h₃,toks:=s.toks+1}) h2₃ hy fun h₄ h2₄ hs₄=>wpAny_pure ?_)
  have k4:=aL hs₄
  have hTO₄:IsPair h₄ (n+3) (.str (st [a]) s.toks) v:=k4 _ _ d13.symm hTO₃
  refine bK (wpAny_seqItems hTO₄ rfl ?_)
  refine bK (wpAny_updateSeq_pair hTO₄ fun h₅ hTO₅ hs₅=>?_)
  replace hTO₅:IsPair h₅ (n+3) (.str (st [a]) s.toks) (.str (st [b]) (s.toks+1)):=hTO₅
  have k5:=aL hs₅
  refine bK (wpAny_letGo (wpAny_pure (wpAny_pure ?_)))
  refine bK (wpAny_seqItems hTO₅ rfl ?_)
  refine bK (wpAny_newTuple ?_)
  have hsz:h₅.objs.size=s.heap.objs.size:=by rw[hs₅.1,hs₄.1,hs₃.1,hs₂.1,hs₁.1]
  have k35:∀ (c:Nat) o,c≠n+3→c≠n+1→h₃.get? c=some o→h₅.get? c=some o:=fun(c:Nat) o c2 c4 e=>k5 _ _ c2 (k4 _ _ c4 e)
  have hz₅:IsZip h₅ (n+4) (n+2) (n+3) .ellipsis:=k35 _ _ d34.symm d14.symm hz₃
  show wpAny _ _ (Builtin.SmallTypes.ownedTupleHandOut (.ref (n+4)) (.ref h₅.objs.size) >>= _) _ _ _
  refine bK ?_
  unfold Builtin.SmallTypes.ownedTupleHandOut
  refine bK (wpAny_setField_rec (Heap.get?_push_of_some _ hz₅) (by simp) fun h₇ hz₇ hs₇=>?_)
  refine wpAny_setField_rec hz₇ (by simp) fun h₈ hz₈ hs₈=>?_
  replace hz₈:IsZip h₈ (n+4) (n+2) (n+3) (rawInt h₅.objs.size):=hz₈
  have up:∀ (c:Nat) o,c≠n+4→h₅.get? c=some o→h₈.get? c=some o:=fun c o c1 e=>aL hs₈ _ _ c1 (aL hs₇ _ _ c1 (Heap.get?_push_of_some _ e))
  have ne:=Nat.ne_of_gt (Heap.lt_size hz₅)
  have hT₈:IsPair h₈ h₅.objs.size (.str (st [a]) s.toks) (.str (st [b]) (s.toks+1)):=aL hs₈ _ _ ne (aL hs₇ _ _ ne (Heap.get?_push_size _ rfl))
  rw[hsz]at hz₈ hT₈
  refine wpAny_pure ⟨_,rfl,?_⟩
  show Q (.ref h₅.objs.size) _
  rw[hsz]
  have k05:∀ (c:Nat) o,c≠n+4→c≠n+3→c≠n→c≠n+1→s.heap.get? c=some o→h₈.get? c=some o:=fun(c:Nat) o c1 c2 c3 c4 e=>up _ _ c1 (k35 _ _ c2 c4 (k3 _ _ c2 (k2 _ _ c3 (k1 _ _ c1 e))))
  exact hQ b h₈ _ hy ⟨hz₈,k05 _ _ d24 d23 d02.symm d12.symm hTI,⟨_,_,up _ _ d34 hTO₅⟩,h1₂.at fun o e=>up _ o d04 (k35 _ o d03 d01 (k3 _ o d03 e)),h2₄.at fun o e=>up _ o d14 (k5 _ o d13 e)⟩ hT₈ (.of k05)
theorem Hh {a b:Nat}{Q:Value→Shared→Prop}(hh:A.handled=none)(Z:ZH n x y k .none s.heap)(hx:x[k]? =some a)(hy:y[k]? =some b)
  (hQ:∀ h' t',ZH n x y (k+1) (rawInt s.heap.objs.size) h'→IsPair h' s.heap.objs.size (.str (st [a]) s.toks) (.str (st [b]) (s.toks+1))→Five n s.heap h'→Q (.ref s.heap.objs.size) {s with heap:=h',toks:=t'}):
  wpAny (model prog w) A (Builtin.«zip.__next__» ⟨[.ref (n+4)],[]⟩) (fun fin s'=>∃ v,fin=.done (.ret v)∧Q v s') E s:=
 yB hh Z hx (fun b' h' t' e=>Option.some.inj (hy.symm.trans e)▸hQ h' t') fun _ _ _ e=>nomatch hy.symm.trans e
theorem MB {Q:Fin→Shared→Prop}(hh:A.handled=none)(Z:ZH n x y k .none s.heap)(hx:∃ a,x[k]? =some a)(hy:y[k]? =none)
  (hE:∀ h' e t',Five n s.heap h'→(∃ o,h'.get? e=some o∧o.cls=.type "StopIteration")→E (.ref e) {s with heap:=h',toks:=t'}):wpAny (model prog w) A (Builtin.«zip.__next__» ⟨[.ref (n+4)],[]⟩) Q E s:=
 hx.elim fun _ hx=>wpAny_mono (yB (Q:=fun _ _=>False) hh Z hx (fun _ _ _ e=>nomatch hy.symm.trans e) fun h' e t' _=>hE h' e t') (fun _ _ q=>q.elim fun _ q=>q.2.elim) fun _ _ q=>q
theorem Hj {a b:Nat}{Q:Option Value→Shared→Prop}(hh:A.handled=none)(Z:ZH n x y k .none s.heap)(hx:x[k]? =some a)(hy:y[k]? =some b)
  (hQ:∀ h' t',ZH n x y (k+1) (rawInt s.heap.objs.size) h'→IsPair h' s.heap.objs.size (.str (st [a]) s.toks) (.str (st [b]) (s.toks+1))→Five n s.heap h'→Q (some (.ref s.heap.objs.size)) {s with heap:=h',toks:=t'}):wpAny (model prog w) A (pyNext (.ref (n+4))) Q E s:=by
 have hT:s.TypeIs (.ref (n+4)) "zip" :=⟨_,Z.z,rfl⟩
 unfold pyNext
 exact bK (wpAny_attempt (wpAny_callSpecial?_slot (name:=Str.ofString "__next__") hT F.slot_zip_next (wpAny_call_entry F.slot_zip_next hT F.entry_zip_next (Hh hh Z hx hy fun h' t' a1 a2 a3=>wpAny_pure (hQ h' t' a1 a2 a3)) (F.args_zip_next_1 _))))
theorem MD {Q:Option Value→Shared→Prop}(hh:A.handled=none)(Z:ZH n x y k .none s.heap)(hx:∃ a,x[k]? =some a)(hy:y[k]? =none)(hQ:∀ h' t',Five n s.heap h'→Q none {s with heap:=h',toks:=t'}):wpAny (model prog w) A (pyNext (.ref (n+4))) Q E s:=by
 have hT:s.TypeIs (.ref (n+4)) "zip" :=⟨_,Z.z,rfl⟩
 unfold pyNext
 refine bK (wpAny_attempt (wpAny_callSpecial?_slot (name:=Str.ofString "__next__") hT F.slot_zip_next (wpAny_call_entry F.slot_zip_next hT F.entry_zip_next (MB hh Z hx hy fun h' e t' hk he=>?_) (F.args_zip_next_1 _))))
 obtain⟨o,ho,hc⟩:=he
 refine bK (wpAny_isInstance (T:="StopIteration") (b:=true) ⟨o,ho,hc⟩ isSubtype_stop ?_)
 exact wpAny_pure (hQ _ _ hk)
end
end
section
section
variable {P:Params}{W W':Wd}{hp hp':List O}{h h' h'' h0:Heap}
structure Str5 (n:Nat) (W:Wd) (hp:List O):Prop where
 nl:∀ c:Nat,n≤c→c<n+5→¬ Live W hp c
 nz:∀ c:Nat,n≤c→c<n+5→W.fz c=none
theorem Rel.five {n:Nat}(R:Rel P W hp h)(S:Str5 n W hp)(f:Five n h h'):Rel P W hp h':=
 have out:∀ (c:Nat) o,(¬ (n≤c∧c<n+5))→h.get? c=some o→h'.get? c=some o:=fun c o q e=>f c o (by lia) e
 R.via (k:=id) R.len (fun b o e=>out b o (fun q=>eG e (S.nz b q.1 q.2)) (R.fz b o e)) R.nf (fun _ o v=>.mk o v rfl ((R.obj _ _ v).imp (fun ob e=>out _ ob (fun q=>S.nl _ q.1 q.2 (.mk _ o v rfl)) e) fun _=>id) (R.cold _ _ v)) fun _ _ _ _=>id
theorem Ext.five {n:Nat}(E:Ext W hp h0 W' hp' h)(n0:∀ c:Nat,n≤c→c<n+5→h0.get? c=none)(f:Five n h h'):Ext W hp h0 W' hp' h':=
 ⟨E.le,fun b o e=>let X:=E.at_ b o e
  have ne:¬ (n≤b∧b<n+5):=fun q=>eG e (n0 b q.1 q.2)
  have f':∀ o,h.get? b=some o→h'.get? b=some o:=fun o q=>f b o (by have: @LE.le Nat _ _ _∨_:=Nat.lt_or_ge (b:Nat) n;exact this.elim .inl fun w=>.inr (Nat.le_of_not_lt fun q=>ne ⟨w,q⟩)) q
  ⟨fun n=>(by rcases X.keep n with⟨o',g,u⟩;exact .mk o' (f' o' g) u),X.live,(by rcases X.ex with⟨o',e',f⟩;exact .mk o' (f' o' e') f),X.cool⟩⟩
theorem Rel.frzn (R:Rel P W hp h){T:Addr}{ob:Obj}(g:h.get? T=some ob)(nl:¬ Live W hp T)(nz:W.fz T=none)(hn:frm ob=false):Rel P (W.freeze T ob) hp h:=
 R.via (k:=id) R.len (fun a o e=>by
  by_cases q:a=T
  ·subst q;rw[← Option.some.inj ((if_pos rfl).symm.trans e)];exact g
  ·exact R.fz _ _ ((if_neg q).symm.trans e)) (Wd.nf_freeze R.nf hn) (fun l o v=>.mk o v rfl ((R.obj _ _ v).imp (fun _=>id) fun _=>OR.mono (Wd.le_freeze nz)) ((if_neg fun q=>nl (.mk l o v q)).trans (R.cold _ _ v))) fun _ _ _ _=>id
theorem Ext.frzn (E:Ext W hp h0 W' hp' h){T:Addr}{ob:Obj}(h0T:h0.get? T=none)(nz:W'.fz T=none):Ext W hp h0 (W'.freeze T ob) hp' h:=
 ⟨E.le.trans (Wd.le_freeze nz),fun b o e=>let X:=E.at_ b o e
  ⟨X.keep,fun l=>X.live ((by rcases l with⟨l,o,v,e⟩;exact .mk l o v e)),X.ex,fun o' f=>X.cool o' ((if_neg fun q=>eG (q▸e) h0T).symm.trans f)⟩⟩
theorem ZH.ext {n:Nat}{x y:Nm}{k:Nat}{f0:Value}(Z:ZH n x y k f0 h)(S:Str5 n W hp)(E:Ext W hp h W' hp' h'):ZH n x y k f0 h'∧Str5 n W' hp':=by
 have kp:∀ (c:Nat) o,n≤c→c<n+5→frm o=false→h.get? c=some o→h'.get? c=some o:=fun c o a b f e=>((E.at_ c o e).keep (S.nl c a b)).eq f
 have fi:∀ {it:Addr} {x:Nm} {k:Nat},ItS h it x k→∃ o,h.get? it=some o∧frm o=false:=fun i=>match i with
  |.mk _ _ _ ⟨o,a,b,c⟩=>⟨o,a,by unfold frm;rw[c]⟩
 have ita:∀ {it:Nat} {x:Nm} {k:Nat},n≤it→it<n+5→ItS h it x k→ItS h' it x k:=fun a b i=>i.at fun o e=>kp _ o a b (by obtain⟨o',e',f⟩:=fi i;rw[e]at e';cases e';exact f) e
 have ex:∀ c:Nat,n≤c→c<n+5→∃ o,h.get? c=some o:=fun c a b=>by
  have q:c=n∨c=n+1∨c=n+2∨c=n+3∨c=n+4:=by lia
  rcases q with rfl|rfl|rfl|rfl|rfl
  ·obtain⟨o,e,_⟩:=fi Z.a;exact⟨o,e⟩
  ·obtain⟨o,e,_⟩:=fi Z.b;exact⟨o,e⟩
  ·exact⟨_,Z.i⟩
  ·obtain⟨u,v,e⟩:=Z.o;exact⟨_,e⟩
  ·exact⟨_,Z.z⟩
 refine⟨⟨kp (n+4) _ (by lia) (by lia) rfl Z.z,kp (n+2) _ (by lia) (by lia) rfl Z.i,Z.o.elim fun u q=>q.elim fun v e=>⟨u,v,kp (n+3) _ (by lia) (by lia) rfl e⟩,ita (Nat.le_refl _) (by lia) Z.a,ita (by lia) (by lia) Z.b⟩,fun c a b l=>?_,fun c a b=>?_⟩
 ·obtain⟨o,e⟩:=ex c a b
  exact S.nl c a b ((E.at_ c o e).live l)
 ·obtain⟨o,e⟩:=ex c a b
  cases q:W'.fz c with
  |none=>rfl
  |some o'=>exact((E.at_ c o e).cool o' q).elim (fun f=>(eG f (S.nz c a b)).elim) fun l=>absurd l (S.nl c a b)
end
section
variable {c:Cx}{sc:aG}{n:Nat}{F:Fx}
inductive ZiS (c:Cx) (sc:aG) (n:Nat) (F:Fx) (g:Expr) (body:List Stmt) (x y:Nm) (R:List O→List O→Prop) (k:Nat) (hp:List O):List O→Prop
 |stop (h:y[k]? =none) (hx:∃ a,x[k]? =some a):ZiS c sc n F g body x y R k hp hp
 |turn {hp1 hp2 hp3:List O} {a b:Nat} (hx:x[k]? =some a) (hy:y[k]? =some b) (h1:RG c sc n F hp g (.dat (.tup [.str [a],.str [b]])) hp1) (h2:RX c sc n F hp1 body .next hp2) (h3:R hp2 hp3):ZiS c sc n F g body x y R k hp hp3
noncomputable def ME (c:Cx)(sc:aG)(n:Nat)(F:Fx)(g:Expr)(body:List Stmt)(x y:Nm)(m:Nat):Nat→List O→List O→Prop:=Nat.rec (fun _ _ _=>False) (fun _ R k=>ZiS c sc n F g body x y (R (k+1)) k) m
structure ZQ where
 c:Cx
 sc:aG
 n:Nat
 F:Fx
 es:List Expr
 tk:Nat
 tp:Pos
 body:List Stmt
 x:Nm
 y:Nm
 A:Around
 W:Wd
 hp:List O
 s:Shared
 env:Env
 it:Nat
noncomputable abbrev ZQ.g (q:ZQ):Expr:=.Tuple q.es q.tk q.tp
inductive ZI (q:ZQ) (hp':List O) (m:Nat) (s2:Shared):Prop
 |mk (k:Nat) (W2:Wd) (hp2:List O) (z:AtF q.c q.sc q.n q.F hp2 q.A W2 s2 q.env) (l:Lat q.W q.hp q.s W2 hp2 s2) (Z:ZH q.it q.x q.y k .none s2.heap) (S:Str5 q.it W2 hp2) (h:ME q.c q.sc q.n q.F q.g q.body q.x q.y m k hp2 hp'):ZI q hp' m s2
theorem AtF.five {A:Around}{W:Wd}{hp:List O}{s:Shared}{env:Env}{i:Nat}{h':Heap}{t:Nat}{x y:Nm}{k:Nat}{f0:Value}(z:AtF c sc n F hp A W s env)(Z:ZH i x y k f0 s.heap)(S:Str5 i W hp)(f:Five i s.heap h')(tk:s.toks≤t):AtF c sc n F hp A W {s with heap:=h',toks:=t} env:=
 ⟨⟨z.a.room,z.a.rel.five S f,z.a.kin,Nat.lt_of_lt_of_le z.a.tk tk,match z.a.fs with
  |.mk l e a=>.mk l e fun env m=>match a env m with
   |.mk L o k f' g m'=>.mk L o k f' (f L o (by
     have fi:∀ {it:Addr} {x:Nm} {k:Nat},ItS s.heap it x k→∃ o,s.heap.get? it=some o∧frm o=false:=fun i=>match i with
      |.mk _ _ _ ⟨o,a,b,c⟩=>⟨o,a,by unfold frm;rw[c]⟩
     have no:∀ c o',s.heap.get? c=some o'→frm o'=false→c≠L:=fun c o' e f q=>by
      subst q;rw[g]at e;cases e;rw[gZ m']at f;cases f
     obtain⟨o1,e1,f1⟩:=fi Z.a
     obtain⟨o2,e2,f2⟩:=fi Z.b
     obtain⟨u,v,e3⟩:=Z.o
     have n1: @Ne Nat i L:=no _ _ e1 f1
     have n2: @Ne Nat (i+1) L:=no _ _ e2 f2
     have n3: @Ne Nat (i+2) L:=no _ _ Z.i rfl
     have n4: @Ne Nat (i+3) L:=no _ _ e3 rfl
     have n5: @Ne Nat (i+4) L:=no _ _ Z.z rfl
     have: @LT.lt Nat _ L i∨ @LE.le Nat _ (i+5) L:=by lia
     exact this) g) m'⟩,z.f,z.sc,z.top⟩
theorem Cf {q:ZQ}(z0:AtF q.c q.sc q.n q.F q.hp q.A q.W q.s q.env)(n0:∀ c:Nat,q.it≤c→c<q.it+5→q.s.heap.get? c=none){hp':List O}{m:Nat}{s':Shared}(h:ZI q hp' m s'){R:Result→Shared→Prop}(hR:∀ W' s',At q.c q.n q.A W' hp' s'→Lat q.W q.hp q.s W' hp' s'→R (.ok .next) s'):
  codeAny q.c.M q.A (.forLoop q.g (.ref (q.it+4)) q.body [] q.env) R s':=by
 refine codeAny_forLoop_any (ZI q hp') ?_ m h
 rintro m s2 ⟨k,W2,hp2,z2,L2,Z,S,h⟩
 cases m with
 |zero=>exact(h:False).elim
 |succ m=>
 refine wpAny_mono (wpAny_with_toks (E:=no) (Nat.le_refl s2.toks) (wpAny_mono (E:=no) ?_ (fun _ _ q=>q) fun _ _ f=>f.elim)) (fun _ _ x=>x) fun _ _ f=>f.elim
 cases(h:ZiS ..)with
 |stop hy hx=>
  refine MD z2.a.room.hd Z hx hy ?_
  intro h' t' f (tk:s2.toks≤t')
  have p:=z2.five Z S f tk
  exact wpAny_execs_nil (hR W2 {s2 with heap:=h',toks:=t'} p.a ⟨L2.e.five n0 f,L2.g,L2.o⟩)
 |turn hx hy g1 g2 g3=>
  refine Hj z2.a.room.hd Z hx hy ?_
  intro h' t' Z' T f (tk:s2.toks≤t')
  refine wpAny_mono (E:=no) (wpAny_letOwnedTupleGo_zip Z'.z fun h'' hz sb=>?_) (fun _ _ x=>x) fun _ _ f=>f.elim
  have kp:=aL sb
  have f2:Five q.it s2.heap h'':=fun c o w e=>kp c o (iL (by lia)) (f c o w e)
  have Z2:ZH q.it q.x q.y (k+1) .none h'':=⟨hz,kp _ _ (iL (by lia)) Z'.i,Z'.o.elim fun u w=>w.elim fun v e=>⟨u,v,kp _ _ (iL (by lia)) e⟩,Z'.a.at fun o e=>kp _ o (iL (by lia)) e,Z'.b.at fun o e=>kp _ o (iL (by lia)) e⟩
  have lt:q.it+4<s2.heap.objs.size:=Heap.lt_size Z.z
  obtain⟨ob,T2,fo,dr⟩:∃ ob,h''.get? s2.heap.objs.size=some ob∧frm ob=false∧∀ W:Wd,W.fz s2.heap.objs.size=some ob→VR q.c.P W (.dat (.tup [.str [_],.str [_]])) (.ref s2.heap.objs.size):=⟨_,kp _ _ (iL (Nat.ne_of_gt lt)) T,rfl,fun W e=>IsSeq.mk s2.heap.objs.size [_,_] 0 e (.mk (.mk _) (.mk (.mk _) rfl))⟩
  have p:=z2.five Z S f2 tk
  have nl:=z2.a.rel.new_live
  have nz:=z2.a.rel.new_cold
  have nT:q.s.heap.get? s2.heap.objs.size=none:=eX L2.e (cO s2.heap)
  have R3:=p.a.rel.frzn T2 nl nz fo
  have L3:Lat q.W q.hp q.s (W2.freeze s2.heap.objs.size ob) hp2 {s2 with heap:=h'',toks:=t'}:=⟨(L2.e.five n0 f2).frzn nT nz,L2.g,L2.o⟩
  have a3:AtF q.c q.sc q.n q.F hp2 q.A (W2.freeze s2.heap.objs.size ob) {s2 with heap:=h'',toks:=t'} q.env:=⟨⟨p.a.room,R3,fun a o e=>(Wd.le_freeze nz).fz a o (p.a.kin a o e),p.a.tk,p.a.fs⟩,p.f.mono (Wd.le_freeze nz),p.sc,p.top⟩
  have S3:Str5 q.it (W2.freeze s2.heap.objs.size ob) hp2:=⟨fun c a b l=>S.nl c a b ((by rcases l with⟨l,o,v,e⟩;exact .mk l o v e)),fun c a b=>(if_neg (iL (Nat.ne_of_lt (Nat.lt_of_le_of_lt (Nat.le_of_lt_succ b) lt)))).trans (S.nz c a b)⟩
  refine wpAny_mono (E:=no) (go a3.a (g1 q.A _ _ q.env _ a3 (dr _ (if_pos rfl))) fun W4 _ s4 a4 L4 _=>?_) (fun _ _ x=>x) fun _ _ f=>f.elim
  refine wpAny_mono (E:=no) (g2.go (a3.next L4 a4) fun W5 fl s5 z5 L5 x5=>?_) (fun _ _ x=>x) fun _ _ f=>f.elim
  rw[show fl=.next from x5]
  have E:=L4.e.trans L5.e
  have ZS:=Z2.ext S3 E
  exact⟨_,Nat.lt_succ_self _,.mk (k+1) W5 _ z5 ((L3.trans L4).trans L5) ZS.1 ZS.2 g3⟩
end
end
section
noncomputable def MF (x:Str)(t:Tok):Obj:={cls:=.type (match x.cps.all (· < 128)with|true=>"str_ascii_iterator" |false=>"str_iterator"),data:=.fields #[.str x t,.int 0 0]}
section
variable {prog:Program}{w:World}{A:Around}{E:Value→Shared→Prop}{s:Shared}
theorem Cg {x:Str}{t:Tok}{Q:Value→Shared→Prop}(h:Q (.ref s.heap.objs.size) {s with heap:=s.heap.push (MF x t)}):wpAny (model prog w) A (pyIter (.str x t)) Q E s:=by
 unfold MF at h
 cases e:x.cps.all (· < 128)with
 |true=>rw[e]at h;exact wpAny_pyIter_ascii e h
 |false=>rw[e]at h;exact wpAny_pyIter_wide e h
theorem yC {h:Heap}{x:Nm}{t:Tok}{a:Addr}(g:h.get? a=some (MF (st x) t)):ItS h a x 0:=by
 unfold MF at g
 cases e:(st x).cps.all (· < 128)with
 |true=>rw[e]at g;exact .mk _ t (.inl rfl) ⟨_,g,rfl,rfl⟩
 |false=>rw[e]at g;exact .mk _ t (.inr rfl) ⟨_,g,rfl,rfl⟩
noncomputable abbrev Tg (h:Heap)(x:Str)(t:Tok):Heap:=h.push (MF x t)
noncomputable abbrev Th (h:Heap)(x y:Str)(t u:Tok):Heap:=(Tg h x t).push (MF y u)
noncomputable abbrev Ti (h:Heap)(x y:Str)(t u:Tok):Heap:=(Th h x y t u).push {cls:=.type "tuple",data:=.seq #[.ref h.objs.size,.ref (Tg h x t).objs.size]}
noncomputable abbrev Tj (h:Heap)(x y:Str)(t u:Tok):Heap:=(Ti h x y t u).push {cls:=.type "tuple",data:=.seq #[.none,.none]}
noncomputable abbrev OW (h:Heap)(x y:Str)(t u:Tok):Heap:=(Tj h x y t u).push {cls:=.type "zip",data:=.fields #[.none,.bool false,.bool false,.ref (Th h x y t u).objs.size,.ref (Ti h x y t u).objs.size]}
set_option maxHeartbeats 4000000 in
theorem vZ (x y:Str)(t u:Tok):Meets (Builtin.«zip.__new__» ⟨[.type "zip",.str x t,.str y u],[]⟩) (fun _ R s=>R (.ok (.ret (.ref (Tj s.heap x y t u).objs.size))) {s with heap:=OW s.heap x y t u}):=
 .of_wp fun prog w A R s h=>by
  obtain⟨hp,g,d,tk,os⟩:=s
  have hsub:=sub_zip
  wp_walk using Cg
  exact⟨_,rfl,h⟩
theorem AK {x y:Nm}{t u:Tok}{Q:Value→Shared→Prop}(h:∀ h',ZH s.heap.objs.size x y 0 .none h'→(∀ c o,s.heap.get? c=some o→h'.get? c=some o)→Q (.ref (s.heap.objs.size+4:Nat)) {s with heap:=h'}):wpAny (model prog w) A (call (.type "zip") [.str (st x) t,.str (st y) u]) Q E s:=by
 refine callType_new F.called_zip (by decide) (F.typeCall_zip_2 _ _) (F.newCall_zip_2 _ _) (fun obj=>F.args_object_init_3 obj _ _) F.entry_zip_new (vZ (st x) (st y) t u) ?_
 have z1:(Tg s.heap (st x) t).objs.size=s.heap.objs.size+1:=Heap.size_push ..
 have z2:(Th s.heap (st x) (st y) t u).objs.size=s.heap.objs.size+2:=by rw[Heap.size_push,z1]
 have z3:(Ti s.heap (st x) (st y) t u).objs.size=s.heap.objs.size+3:=by rw[Heap.size_push,z2]
 have z4:(Tj s.heap (st x) (st y) t u).objs.size=s.heap.objs.size+4:=by rw[Heap.size_push,z3]
 have fr:∀ x t,(MF x t).isFreed=false:=fun _ _=>rfl
 have g5:(OW s.heap (st x) (st y) t u).get? (Tj s.heap (st x) (st y) t u).objs.size=some _:=Heap.get?_push_size _ rfl
 have g4:(OW s.heap (st x) (st y) t u).get? (Ti s.heap (st x) (st y) t u).objs.size=some _:=Heap.get?_push_of_some _ (Heap.get?_push_size _ rfl)
 have g3:(OW s.heap (st x) (st y) t u).get? (Th s.heap (st x) (st y) t u).objs.size=some _:=Heap.get?_push_of_some _ (Heap.get?_push_of_some _ (Heap.get?_push_size _ rfl))
 have g2:(OW s.heap (st x) (st y) t u).get? (Tg s.heap (st x) t).objs.size=some _:=Heap.get?_push_of_some _ (Heap.get?_push_of_some _ (Heap.get?_push_of_some _ (Heap.get?_push_size _ (fr _ _))))
 have g1:(OW s.heap (st x) (st y) t u).get? s.heap.objs.size=some _:=Heap.get?_push_of_some _ (Heap.get?_push_of_some _ (Heap.get?_push_of_some _ (Heap.get?_push_of_some _ (Heap.get?_push_size _ (fr _ _)))))
 show _∧_
 rw[z2,z3,z4]at g5
 rw[z1,z2]at g3
 rw[z3]at g4
 rw[z1]at g2
 rw[z4]
 exact⟨⟨_,g5,rfl⟩,h _ ⟨g5,g3,⟨_,_,g4⟩,yC g1,yC g2⟩ fun c o x=>Heap.get?_push_of_some _ (Heap.get?_push_of_some _ (Heap.get?_push_of_some _ (Heap.get?_push_of_some _ (Heap.get?_push_of_some _ x))))⟩
end
section
variable {c:Cx}{sc:aG}{n:Nat}{F:Fx}{hp hp':List O}
theorem MG {gz:Expr}{rs es:List Expr}{zp p tp:Pos}{tk m:Nat}{body:List Stmt}{x y:Nm}(hn:rs.all bJ=true)(hc:qP gz=true)(h0:RE c sc n F hp gz (.typ "zip") hp)(h1:xQ c sc n F hp rs [.dat (.str x),.dat (.str y)] hp)
  (h:ME c sc n F (.Tuple es tk tp) body x y m 0 hp hp'):RS c sc n F hp (.For (.Tuple es tk tp) (.Call gz rs [] zp) body [] p) .next hp':=fun A W s env z=>by
 refine wpAny_For ?_ (fun _=>rfl)
 rw[vS hc]
 refine bK (h0.go z fun W1 u1 s1 z1 L1 x1=>?_)
 rw[bV zp env hn]
 refine sJ (h1.go z1 fun W2 us s2 z2 L2 x2=>?_)
 rw[show u1=.type "zip" from x1]
 obtain⟨u,v,rfl,hu,hv⟩:=eV x2
 obtain⟨t⟩:=(hu:IsS x u)
 obtain⟨t'⟩:=(hv:IsS y v)
 refine⟨.typ _,?_⟩
 refine AK fun h' Z kp=>?_
 refine wpAny_pyIter_zip Z.z ?_
 have L:=L1.trans L2
 have n0:∀ c:Nat,s2.heap.objs.size≤c→c<s2.heap.objs.size+5→s2.heap.get? c=none:=fun c a _=>match e:s2.heap.get? c with
  |none=>rfl
  |some o=>absurd (Heap.lt_size e) (Nat.not_lt.mpr a)
 have f:Five s2.heap.objs.size s2.heap h':=fun c o _ e=>kp c o e
 have S:Str5 s2.heap.objs.size W2 hp:=⟨fun c a b l=>(by rcases l with⟨l,o,v,e⟩;exact(by rcases z2.a.rel.obj l o v with⟨ob,g,_⟩;exact eG (e▸g) (n0 c a b))),fun c a b=>match e:W2.fz c with
   |none=>rfl
   |some o=>(eG (z2.a.rel.fz _ o e) (n0 c a b)).elim⟩
 have E2:Ext W2 hp s2.heap W2 hp h':=(Ext.refl W2 hp s2.heap).five n0 f
 have R2:Rel c.P W2 hp h':=z2.a.rel.five S f
 have L3:Lat W2 hp s2 W2 hp {s2 with heap:=h'}:=⟨E2,.refl _,rfl⟩
 refine Cf (q:=⟨c,sc,n,F,es,tk,tp,body,x,y,A,W2,hp,s2,env,s2.heap.objs.size⟩) z2 n0 (.mk 0 W2 hp (z2.next L3 (z2.a.next L3 R2 (Nat.le_refl _))) L3 Z S h) fun W' s' a L'=>.last (t:=s'.toks) a (L.trans L') rfl
end
end
section
noncomputable def Jl:Nm:=[95,95,99,111,110,116,97,105,110,115,95,95]
theorem Hk:st Jl=("__contains__" :Str):=by decide+kernel
section
variable {M:Model}{A:Around}{E:Value→Shared→Prop}{s:Shared}{K:Frag}{x C f:Addr}{ox:Obj}{od:Option Obj}{v:Value}
theorem MH {Q:Value→Shared→Prop}(X:K.In s.heap)(I:PySem.W.InstAt s.heap x ox C od)(hs:findIn K (.ref C) "__contains__" =some (some (.ref f)))(hf:PySem.W.isFn K (.ref f)=true)
  (h:wpAny M A (call (.ref f) [.ref x,v]) (fun r s'=>wpAny M A (truthy r) (fun b=>Q (.bool b)) E s') E s):wpAny M A (compareOp .In v (.ref x)) Q E s:=by
 refine wpAny_bind (wpAny_mono (Q:=fun b s'=>Q (.bool b) s') ?_ (fun _ _ z=>wpAny_pure z) fun _ _ z=>z)
 unfold contains
 refine wpAny_holding (wpAny_bind (wpAny_bind (I.type.here ((looks_findIn X hs).here ?_))))
 rw[if_neg (by simp)]
 exact wpAny_bind (unlessNone_K X I hs hf h)
end
section
variable {c:Cx}{n:Nat}{hp:List O}{v:V}{a f:Nat}{t:TI}{cl:Cl}{b:Bool}
theorem MI (e:Fv c.G.tops a=some t)(e2:qB c.G.cls t.c=some cl)(e4:lk cl.meths Jl=some f)(h:CallOk c n f [.top a,v] hp (.dat (.boo b)) hp):cG c n hp (compareOp .In) jA v (.top a) b hp:=fun A W s u u' z hv ho=>match uN z e,BB e2 with
 |.mk en k E ia,C=>by
  rw[show u'=.ref _ from ho]
  have M:=C.meths _ f e4
  have mf:=M.find
  rw[Hk]at mf
  refine MH z.In ia mf (beq_iff_eq.mpr M.type) (wpAny_mono (E:=no) (g9 (h.run A W s _ _ .pos z (.mk rfl (R2.one hv)))) (fun r s' p=>?_) fun _ _ f=>f.elim)
  match p with
  |.mk W' R' L' x=>
   rw[show r=.bool b from x]
   exact wpAny_pure (.mk W' R' L' rfl)
end
end
section
theorem mZ {o:Obj}(h:frm o=true)(vs:Array Value)(q:o.data=.fields vs):False:=by
 unfold frm at h
 rw[q]at h
 cases h
section
variable {P:Params}{W W':Wd}{hp hp':List O}{h0 h h' base:Heap}
theorem m4 (R:Rel P W' hp' h)(E:Ext W hp h0 W' hp' h)(hb:∀ a o,h.get? a=some o→iC a o=false→(Live W' hp' a∨(∃ z,W'.fz a=some z)∨∃ z,h0.get? a=some z)→base.get? a=some o)
  (st:base.StaysIn h')(sm:h.UpToSlots h'):Rel P W' hp' h'∧Ext W hp h0 W' hp' h':=by
 have go:∀ a o,h.get? a=some o→(Live W' hp' a∨(∃ z,W'.fz a=some z)∨∃ z,h0.get? a=some z)→Up h' a o:=fun a o e c=>by
  cases f:iC a o with
  |false=>exact .here (st _ _ (hb a o e f c))
  |true=>
   obtain⟨sl,e'⟩:=sm a o e fun vs=>mZ (gZ f) vs
   exact .mk _ e' (.sl f sl)
 exact⟨⟨R.len,fun l o v=>(by rcases R.obj l o v with⟨ob,g,r⟩;exact(by rcases go _ ob g (.inl (.mk l o v rfl))with⟨ob',g',u⟩;exact .mk ob' g' (r.upto u))),R.cold,R.inj,fun a o e=>(go a o (R.fz a o e) (.inr (.inl ⟨o,e⟩))).eqm (R.nf a o e),R.nf⟩,
  E.le,fun a o e=>have X:=E.at_ a o e
   ⟨fun n=>(by rcases X.keep n with⟨o1,g1,u1⟩;exact(by rcases go a o1 g1 (.inr (.inr ⟨o,e⟩))with⟨o2,g2,u2⟩;exact .mk o2 g2 (u1.trans u2))),X.live,(by rcases X.ex with⟨o1,g1,f1⟩;exact(by rcases go a o1 g1 (.inr (.inr ⟨o,e⟩))with⟨o2,g2,u2⟩;exact .mk o2 g2 fun q=>u2.frm.trans (f1 q))),X.cool⟩⟩
theorem Fs.fun' {h base:Heap}:∀ {l:List Env},(∀ env∈l,FrAt h env)→(∀ env∈l,∀ a,env.frame=some a→base.get? a=none)→h.FunFrames base l
 | [],_,_=>trivial
 |env::l,f,g=>(by rcases f env List.mem_cons_self with⟨L,o,k,a,b,c⟩;exact⟨k,⟨L,o,a,g env List.mem_cons_self L a,b,fun vs=>mZ (gZ c) vs⟩,Fs.fun' (fun e m=>f e (List.mem_cons_of_mem _ m)) fun e m=>g e (List.mem_cons_of_mem _ m)⟩)
end
inductive Flies (c:Cx) (A:Around) (W:Wd) (hp:List O) (s:Shared) (hp':List O) (s':Shared) (r:Result):Prop
 |mk (W':Wd) (e:Addr) (base:Heap) (t:Value) (re:r=.error (.ref e)) (R:Rel c.P W' hp' s'.heap) (L:Lat W hp s W' hp' s') (fly:∀ l,A.frames=some l→Heap.FlyingW base l e (.type "KeyError") t s'.heap)
   (hb:∀ a o,s'.heap.get? a=some o→iC a o=false→(Live W' hp' a∨(∃ z,W'.fz a=some z)∨∃ z,s.heap.get? a=some z)→base.get? a=some o)
structure RaiseOk (c:Cx) (n f:Nat) (args:List V) (hp hp':List O):Prop where
 fn:fnIn c.K f=true
 run:∀ A W s vals,At c n A W hp s→VRs c.P W args vals→codeAny c.M A (.call (.ref f) ⟨vals,[]⟩) (fun r s'=>Flies c A W hp s hp' s' r) s
theorem MJ:isSubtype (.type "KeyError") (.type "KeyError")=pure true:=by rw[isSubtype_type];kernel_rfl
theorem MK:isSubtype (.type "KeyError") (.type "BaseException")=pure true:=by rw[isSubtype_type];kernel_rfl
theorem QP:isSubtype (.type ((Manifest.find? "KeyError").elim "type" fun x=>x.metatype)) (.type "tuple")=pure false:=by rw[isSubtype_type];kernel_rfl
end
section
section
variable {c:Cx}{A:Around}{α β:Type}{RR:RT β α}{n:Nat}{W:Wd}{hp hp':List O}{s:Shared}{b:β}{E:Value→Shared→Prop}
theorem Wz {m:Sem α}{Z:α→Shared→Prop}(z:At c n A W hp s)(h:c.wp A m (Post c RR W hp s b hp') s)(k:∀ W' a s',At c n A W' hp' s'→Lat W hp s W' hp' s'→RR W' b a→Z a s'):wpAny c.M A m Z E s:=
 wpAny_mono (E:=no) (go z h k) (fun _ _ x=>x) fun _ _ f=>f.elim
end
section
variable {c:Cx}{sc:aG}{n:Nat}{F:Fx}{hp hp1 hp2 hp3 hp4:List O}{p ap:Pos}{r:Expr}{rs:List Expr}{us:List V}{A:Around}{W:Wd}{s:Shared}{env:Env}
theorem AM {a:Str}{ta f:Nat}{Q EH:Value→Shared→Prop}(hn:rs.all bJ=true)(hl:rs.length<30)(hp':(ap.endLine==p.line)=true)(hb:∀ env wh,attributeBase r a env wh=wh)(h1:RE c sc n F hp r (.top ta) hp1)(h2:GT c n hp1 (.top ta) a.cps.toList (.fnT f ta) hp2)(h3:xQ c sc n F hp2 rs us hp3)
  (h4:RaiseOk c n f (.top ta::us) hp3 hp4)(z:AtF c sc n F hp A W s env)(h:∀ e s',Flies c A W hp s hp4 s' (.error e)→EH e s'):wpAny c.M A (eval (.Call (.Attribute r a ap) rs [] p) env) Q EH s:=by
 rw[arm_eval_Call,hb]
 refine wpAny_bind (wpAny_mono (E:=no) (h1.go z fun W1 u1 s1 z1 L1 x1=>wpAny_bind (wpAny_standAt ?_)) (fun _ _ x=>x) fun _ _ f=>f.elim)
 rw[bV p env hn]
 have few:methodCallForm (rs.length+([]:List Keyword).length) (rs.map fun r=>(false,eval r env)) (backToKw p (keywordEach [] env))=true:=by
  unfold methodCallForm
  exact Bool.and_eq_true_iff.mpr ⟨Bool.and_eq_true_iff.mpr ⟨by simp,rfl⟩,decide_eq_true hl⟩
 unfold methodCall
 rw[few]
 unfold calleeOf
 rw[if_pos rfl,← aH a]
 refine wpAny_bind (wpAny_holding (Wz z1.a (h2 _ A W1 s1 u1 z1.a x1) fun W2 fx s2 a2 L2 x2=>?_))
 have hpos:methodCallPos true r env ap p=pure p:=by
  unfold methodCallPos
  simp[hp']
 obtain⟨g,first⟩:=fx
 dsimp only
 rw[hpos]
 cases(x2:(g,first)=(.ref f,[.ref ta]))
 refine wpAny_bind (wpAny_pure (sJ (wpAny_mono (E:=no) (h3.go (z1.next L2 a2) fun W3 us3 s3 z3 L3 x3=>?_) (fun _ _ x=>x) fun _ _ f=>f.elim)))
 have L03:=(L1.trans L2).trans L3
 refine⟨.of (keeps_K (jC h4.fn) _ z3.a.In),wpAny_call (codeAny_mono (h4.run A W3 s3 _ z3.a (.mk rfl x3)) fun r' s' q=>?_)⟩
 match q with
 |.mk W4 e base t re R L fly hb4=>
  subst re
  exact h _ s' (.mk W4 e base t rfl R (L03.trans L) fly fun a o g f c=>hb4 a o g f (c.elim .inl fun c=>.inr (c.elim .inl fun⟨zz,c⟩=>.inr ((by rcases(L03.e.at_ a zz c).ex with⟨o',k,_⟩;exact⟨o',k⟩)))))
end
end
section
noncomputable def Ff:Nm:=[75,101,121,69,114,114,111,114]
theorem Ch:(st Ff==("__debug__" :Str))=false:=by decide+kernel
section
variable {c:Cx}{sc:aG}{n:Nat}{F:Fx}{hp hp':List O}{A B:Around}{W:Wd}{s:Shared}{env:Env}{x:Nm}{v:V}{u:Value}
theorem Ci {EE:Value→Shared→Prop}{Q:Value→Shared→Prop}{t:String}(z:AtF c sc n F hp A W s env)(hk:sc.lookup (st x)=some .globalImplicit)(h0:lk c.G.glob x=none)(h1:lk c.G.blts x=some (.typ t))(q:Q (.type t) s):
  wpAny c.M B (loadName env (st x)) Q EE s:=by
 have hk:env.kindOf (st x)=some .globalImplicit:=by unfold Env.kindOf;rw[z.sc];exact hk
 have h:loadName env (st x)=loadGlobal env (st x):=by
  unfold loadName
  simp only[Env.blockKind,z.f.kind,hk,ScopeKind.isAnnotationScope,Bool.false_and,Bool.false_eq_true,if_false]
 rw[h]
 exact match c.top.main,c.top.blt with
 |.mk o es ep l d k q1,.mk o' es' ep' l' d' k' q'=>by
  have hN:s.heap.Ns env.globals fun y=>nsFind es y:=z.f.glob ▸ ⟨o,es,ep,z.a.In _ _ l,d,k,fun _=>rfl⟩
  obtain⟨u,r1,r2⟩:=q' x _ h1
  obtain rfl:u=.type t:=r2
  exact Calls.loadGlobal_builtin hN (q1.2 x _ h1) (z.f.blt ▸ ⟨o',es',ep',z.a.In _ _ l',d',k',fun _=>rfl⟩:s.heap.Ns env.builtins fun y=>nsFind es' y) r1 q
theorem Hl (z:AtF c sc n F hp A W s env)(hk:sc.lookup (st x)=some .local)(hv:VR c.P W v u)(e:eH F x v hp=some hp'):c.wp B (storeName env (st x) u) (Post c p7 W hp s () hp') s:=
 (aS e).elim fun es q=>have lv:=mG q.1;match z.a.rel.fr lv with
 |.mk cl en k g d=>by
  rw[storeName_local (by unfold Env.kindOf;rw[z.sc];exact hk) (by rw[z.f.kind];rfl),z.f.loc,← q.2]
  exact p8 z.a lv g d hv fun en' k' d'=>.mk cl en' k' d'
end
section
variable {c:Cx}{sc:aG}{n:Nat}{F:Fx}{hp hp1 hp2 hp3 hp4 hp5:List O}{r:Expr}{rs:List Expr}{us:List V}{x:Nm}
theorem Hm {a:Str}{ta f:Nat}{rb:List Stmt}{ap cpos apos px kp py cp apos2 hpos tpos:Pos}{cx:Nat}(hn:rs.all bJ=true)(hl:rs.length<30)(hp':(ap.endLine==cpos.line)=true)(hb:∀ env wh,attributeBase r a env wh=wh)
  (h1:RE c sc n F hp r (.top ta) hp1)(h2:GT c n hp1 (.top ta) a.cps.toList (.fnT f ta) hp2)(h3:xQ c sc n F hp2 rs us hp3)(h4:RaiseOk c n f (.top ta::us) hp3 hp4)(ho:F.own=true)
  (hk:sc.lookup (st x)=some .local)(e:eH F x (.dat .non) hp4=some hp5)(hg:lk c.G.glob Ff=none)(hg':lk c.G.blts Ff=some (.typ "KeyError"))(hke:sc.lookup (st Ff)=some .globalImplicit)
  (hsw:∀ env,swapsWithSole [.Name (st x) px] (.Call (.Attribute r a ap) rs [] cpos) apos.line env=pure false)(hst:∀ env,env.scope.kind=.function→env.scope.names=sc→swappedStores [.Name (st x) px] (.Call (.Attribute r a ap) rs [] cpos) env=pure none):
  RS c sc n F hp (.Try (.Assign [.Name (st x) px] (.Call (.Attribute r a ap) rs [] cpos) apos::rb) [.ExceptHandler (some (.Name (st Ff) kp)) none [.Assign [.Name (st x) py] (.Constant .none cx cp) apos2] hpos] [] [] tpos) .next hp5:=fun A W s env z=>by
 refine wpAny_Try_except ?_
 generalize hBQ:(fun f s₁=>match f with|Flow.next=>wpAny (model c.prog c.w) A (execs [] env) (Post c c.FT W hp s .next hp5) no s₁|f=>Post c c.FT W hp s .next hp5 f s₁:Flow→Shared→Prop)=BQ
 rw[execs_cons]
 refine bK (wpAny_Assign_stores ?_ (hsw env) (hst env z.f.kind z.sc))
 refine wpAny_with_toks (Nat.le_refl s.toks) (AM hn hl hp' hb h1 h2 h3 h4 z fun ev s' fl tk=>?_)
 match fl with
 |.mk W' ea base t re R L fly hb4=>
 cases re
 obtain⟨l,hfr⟩:=z.top ho
 obtain⟨Lf,oL',g0,g1,g2,g3⟩:∃ (Lf:Addr) (o:Obj),env.scope.kind≠.module∧env.frame=some Lf∧s'.heap.get? Lf=some o∧frm o=true:=match z.a.fs with
  |.mk l' e' f'=>match(f' env (by rw[hfr]at e';cases e';exact List.mem_cons_self)).ext L.e with
   |.mk a b c d e f=>⟨a,b,c,d,e,gZ f⟩
 have hfl:=fly _ hfr
 refine wpAny_looks_onW hfr g1 hfl fun h₄ held₄ sm₄=>?_
 refine wpAny_landsW held₄ fun h₅ held sm₅=>?_
 obtain⟨ob,hob,hobc⟩:=held.there
 have z5:=m4 R L.e hb4 held.1 (sm₄.trans sm₅)
 refine wpAny_handleBy_builtin (X:="KeyError") (T:="KeyError") (b:=true) MK QP MJ ?_
 have L5:Lat W hp s W' hp4 {s' with heap:=h₅}:=⟨z5.2,L.g,L.o⟩
 have zz:AtF c sc n F hp4 A W' {s' with heap:=h₅} env:=z.next L5 (z.a.next L5 z5.1 tk)
 refine wpAny_Name (Ci zz hke hg hg' ⟨rfl,⟨ob,hob,hobc⟩,?_⟩) Ch
 rw[if_pos rfl]
 refine lands_againW (s:={s' with heap:=h₅}) held fun h₆ hfl₆ sm₆=>?_
 have z6:=m4 R L.e hb4 hfl₆.1 ((sm₄.trans sm₅).trans sm₆)
 have L6:Lat W hp s W' hp4 {s' with heap:=h₆}:=⟨z6.2,L.g,L.o⟩
 have z7:AtF c sc n F hp4 A W' {s' with heap:=h₆} env:=z.next L6 (z.a.next L6 z6.1 tk)
 rw[execs_cons]
 refine bK (wpAny_mono (E:=no) (wpAny_Assign_stores (Q:=fun f s7=>f=.next∧Post c p7 W' hp4 {s' with heap:=h₆} () hp5 () s7) ?_ rfl rfl) (fun f s7 q=>?_) fun _ _ f=>f.elim)
 ·rw[eval_Constant]
  refine wpAny_pure ?_
  show wpAny _ _ (assign (.Name (st x) py) env .none) _ _ _
  exact wpAny_mono (wpAny_assign_Name (Hl z7 hk (v:=.dat .non) (u:=.none) rfl e)) (fun _ _ q=>⟨rfl,q⟩) fun _ _ f=>f
 ·obtain⟨rfl,q⟩:=q
  exact wpAny_execs_nil (q.nxt.later L6)
end
end
section
theorem m5 (r:Stmt)(env:Env):∀ rb:List Stmt,execs (rb++[r]) env=execs rb env >>= fun f=>match f with|.next=>execs [r] env|f=>pure f
 | []=>by
  show execs [r] env=(pure Flow.next:Sem Flow) >>= _
  rw[pure_bind]
 |r0::rb=>by
  show execs (r0::(rb++[r])) env=execs (r0::rb) env >>= _
  rw[execs_cons,execs_cons,bind_assoc]
  congr 1
  funext f
  cases f with
  |next=>exact m5 r env rb
  |_=>rw[pure_bind]
theorem Hn {M:Model}{A:Around}{env:Env}{r:Stmt}{rb:List Stmt}{s:Shared}{Q:Flow→Shared→Prop}{E:Value→Shared→Prop}(h:wpAny M A (execs rb env) (fun f s'=>match f with|.next=>wpAny M A (exec r env) Q E s'|f=>Q f s') E s):wpAny M A (execs (rb++[r]) env) Q E s:=by
 rw[m5]
 refine wpAny_bind (wpAny_mono h (fun f s' q=>?_) fun _ _ x=>x)
 cases f with
 |next=>
  show wpAny M A (execs [r] env) Q E s'
  rw[execs_cons]
  refine wpAny_bind (wpAny_mono q (fun f s2 q=>?_) fun _ _ x=>x)
  cases f <;>exact wpAny_pure q
 |_=>exact wpAny_pure q
section
variable {c:Cx}{n:Nat}
theorem yD {h:Heap}{l:List Env}(ha:∀ env∈l,FrAt h env){a:Addr}{o:Obj}(e:h.get? a=some o)(f:iC a o=false):(hideAll h (l.filterMap (·.frame))).get? a=some o:=
 hideAll_get _ e fun m=>(List.mem_filterMap.mp m).elim fun en q=>match ha en q.1 with
  |.mk L o' _ k1 k2 k3=>by
   rw[q.2]at k1;cases k1
   rw[e]at k2;cases k2
   rw[f]at k3;cases k3
theorem v0 {a:Nat}{F:Fn}{args:List V}{hp hp1 hp2 hp3:List O}{X:Fx}{rb:List Stmt}{ra:Expr}{np cpos rpos:Pos}{v:V}{fz τ:List Nat}{p:V×List O}(D:FnD c.P c.K a F)(h1:Nat.ble args.length F.params.length=true)(h2:Nat.ble F.params.length (args.length+F.dflt.length)=true)
  (en:rX F args hp=some (X,hp1))(eb:F.body=rb++[.Raise (some (.Call (.Name (st Ff) np) [ra] [] cpos)) none rpos])(b:RX c F.names n X hp1 rb .next hp2)(b2:RE c F.names n X hp2 ra v hp3)(hns:bJ ra=true)
  (ho:X.own=true)(hg:lk c.G.glob Ff=none)(hg':lk c.G.blts Ff=some (.typ "KeyError"))(hke:F.names.lookup (st Ff)=some .globalImplicit)(e:gJ hp.length fz τ (.dat .non) hp3=some p):RaiseOk c (n+1) a args hp p.2:=
 ⟨(by rcases D with⟨_,_,_,_,fn,_,_,_,_⟩;exact fn),fun A W s vals z hv=>oV D h1 h2 en z hv .pos fun W2 s2 env z2 L=>by
  rw[eb]
  refine Hn (wpAny_mono (E:=no) (b.go z2 fun W3 f s3 z3 L3 x3=>?_) (fun _ _ q=>q) fun _ _ f=>f.elim)
  obtain rfl:f=.next:=x3
  refine Raise_new z3.a.room.hd (Call_Name1 (wpAny_Name (Ci z3 hke hg hg' ?_) Ch) (by have w:=bV cpos env (rs:=[ra]) (by simp[hns]);cases ra <;>first|rfl|cases hns))
  refine PyProof.Rows.callWith_type rfl (Calls.evalArgs_plain ?_)
  have b3:xQ c F.names n X hp2 [ra] [v] hp3:=fJ b2 jD
  refine wpAny_mono (E:=no) (b3.go z3 fun W4 us s4 z4 L4 x4=>?_) (fun _ _ q=>q) fun _ _ f=>f.elim
  have L04:=(L.trans L3).trans L4
  refine call_exc_raise excClass_KeyError (fun h' ea hx=>?_) (by show us.length≤_;rw[R2.len x4];exact(by decide:1≤sizeLine))
  obtain⟨W5,R5,E5,_,_⟩:Vr c.P W hp s.heap s4.heap W4 hp3 p.1 .none p.2:=i5 (z.rel.len.symm▸e:gJ W.n fz τ (.dat .non) hp3=some p) (.mk W4 z4.a.rel L04.e rfl fun _ n z=>⟨n,z⟩)
  obtain⟨l,hfr⟩:=z4.top ho
  obtain⟨_,e',hall⟩:=z4.a.fs
  rw[hfr]at e';cases e'
  obtain⟨ob,t,he1,he2,he3⟩:=hx.there
  obtain⟨Lf,oL',_,g1,g2,g3⟩:=hall env List.mem_cons_self
  have hen:(hideAll s4.heap ((env::l).filterMap (·.frame))).get? ea=none:=by
   cases w:(hideAll s4.heap ((env::l).filterMap (·.frame))).get? ea with
   |none=>rfl
   |some o=>have:=of_hideAll _ w;rw[hx.new]at this;cases this
  refine wpAny_leaving_firstW (s:={s4 with heap:=h'}) (base:=hideAll s4.heap ((env::l).filterMap (·.frame))) (outer:=l) hfr
   (Fs.fun' (fun en m=>(by rcases hall en m with⟨L,o,k,f,g,m⟩;exact .mk L o k f (hx.keeps _ _ g) m)) fun en m a q=>hideAll_none _ (List.mem_filterMap.mpr ⟨en,m,q⟩))
   g1 he1 (fun b o q=>hx.keeps _ _ (of_hideAll _ q)) hen he3 rfl rfl fun h2 ⟨k1,⟨_,_,k2⟩,k3,k4⟩=>?_
  rw[he2]at k3
  have sm:s4.heap.UpToSlots h2:=(Heap.UpToSlots.of_keeps hx.keeps).trans k4
  have w:=m4 R5 E5 (fun a o e f _=>yD hall e f) k1 sm
  refine .mk W5 ea (hideAll s4.heap ((env::l).filterMap (·.frame))) t rfl w.1 ⟨w.2,L04.g,L04.o⟩ (fun l' hl'=>?_) fun a o e f cc=>?_
  ·have q:(A.deeper env).frames=A.frames.map (env::·):=rfl
   rw[hl']at q
   rw[q]at hfr
   cases hfr
   exact⟨k1,hen,k2,k3⟩
  ·obtain⟨o1,e1⟩:∃ o1,s4.heap.get? a=some o1:=cc.elim (fun|.mk l o v q=>(by rcases R5.obj l o v with⟨ob,g,_⟩;exact⟨ob,q▸g⟩)) fun cc=>cc.elim (fun⟨zz,q⟩=>⟨_,R5.fz _ _ q⟩) fun⟨zz,q⟩=>match(E5.at_ a zz q).ex with|.mk o1 g _=>⟨o1,g⟩
   cases f1:iC a o1 with
   |true=>
    obtain⟨sl,g⟩:=sm a o1 e1 fun vs=>mZ (gZ f1) vs
    rw[e]at g;cases g
    have:iC a {o1 with slots:=sl}=iC a o1:=rfl
    rw[this,f1]at f;cases f
   |false=>
    have g:=yD hall e1 f1
    have:=k1 _ _ g
    rw[e]at this;cases this
    exact g⟩
end
end
section
noncomputable def ML:Nm:=[116,101,120,116]
noncomputable def Ho:Nm:=[112,108,97,99,101]
noncomputable def fL:Nm:=Xh
noncomputable def v4:Nm:=[110,101,119,76,105,110,101,115]
noncomputable def qQ:Nm:=[100,97,116,97,83,116,114,101,97,109]
noncomputable def Hp:Nm:=[99,104,117,110,107]
noncomputable def sX:Nm:=[99,104,117,110,107,83,105,122,101]
noncomputable def oH:Nm:=[99,104,117,110,107,79,102,102,115,101,116]
noncomputable def Cj:Nm:=[101,114,114,111,114,115]
noncomputable def m6:Nm:=Xr
noncomputable def oI:Nm:=[112,114,101,118,78,117,109,67,111,108,115]
noncomputable def hX:Nm:=Xj
noncomputable def MM:Nm:=Xy
noncomputable def MN:Nm:=Xw
noncomputable def v5:Nm:=Xk
noncomputable def oJ:Nm:=Xf
noncomputable def Ck:Nm:=[115,116,114,101,97,109]
noncomputable def Co:Nm:=[112,97,114,115,101,114]
noncomputable def qR:Nm:=[101,115,99,97,112,101,70,108,97,103]
noncomputable def lM:Nm:=Xp
noncomputable def Hq:Nm:=[115,116,97,116,101]
noncomputable def Cp:Nm:=[101,115,99,97,112,101]
noncomputable def m7:Nm:=Xs
noncomputable def qS:Nm:=[116,111,107,101,110,81,117,101,117,101]
noncomputable def QR:D:=.non
noncomputable def b7:D:=.tup [.str [9],.str [10],.str [12],.str [32],.str [13]]
noncomputable def cA:D:=.tup [.str [97],.str [98],.str [99],.str [100],.str [101],.str [102],.str [103],.str [104],.str [105],.str [106],.str [107],.str [108],.str [109],.str [110],.str [111],.str [112],.str [113],.str [114],.str [115],.str [116],.str [117],.str [118],.str [119],.str [120],.str [121],.str [122],.str [65],.str [66],.str [67],.str [68],.str [69],.str [70],.str [71],.str [72],.str [73],.str [74],.str [75],.str [76],.str [77],.str [78],.str [79],.str [80],.str [81],.str [82],.str [83],.str [84],.str [85],.str [86],.str [87],.str [88],.str [89],.str [90]]
noncomputable def Cq:D:=.tup [.str [48],.str [49],.str [50],.str [51],.str [52],.str [53],.str [54],.str [55],.str [56],.str [57]]
noncomputable def sY:D:=.tup [.str [48],.str [49],.str [50],.str [51],.str [52],.str [53],.str [54],.str [55],.str [56],.str [57],.str [97],.str [98],.str [99],.str [100],.str [101],.str [102],.str [65],.str [66],.str [67],.str [68],.str [69],.str [70]]
noncomputable def cY:D:=.dct [([65,77,80],.str [38]),([65,77,80,59],.str [38]),([69,97,99,117,116,101],.str [201]),([69,97,99,117,116,101,59],.str [201]),([77,111,112,102,59],.str [120132]),([97,99,59],.str [8766]),([97,99,69,59],.str [8766,819]),([97,99,117,116,101],.str [180]),([97,99,117,116,101,59],.str [180]),([97,109,112],.str [38]),(Xg,.str [38]),([97,110,103,59],.str [8736]),([97,110,103,108,101,59],.str [8736]),([98,110,101,59],.str [61,8421]),([99,111,112,121],.str [169]),([99,111,112,121,59],.str [169]),([101,97,99,117,116,101],.str [233]),([101,97,99,117,116,101,59],.str [233]),([102,114,97,99,49,50],.str [189]),([102,114,97,99,49,50,59],.str [189]),([103,116],.str [62]),([103,116,59],.str [62]),([108,116],.str [60]),([108,116,59],.str [60]),([110,98,115,112],.str [160]),([110,98,115,112,59],.str [160]),([110,111,116],.str [172]),([110,111,116,59],.str [172]),(Xa,.str [8713]),([110,111,116,110,105,59],.str [8716]),([112,97,114,97],.str [182]),([112,97,114,97,59],.str [182]),([112,97,114,97,108,108,101,108,59],.str [8741]),([113,117,111,116],.str [34]),([113,117,111,116,59],.str [34]),([115,117,112,49],.str [185]),([115,117,112,49,59],.str [185]),([115,117,112,50],.str [178]),([115,117,112,50,59],.str [178]),([115,117,112,59],.str [8835]),([116,105,109,101,115],.str [215]),([116,105,109,101,115,59],.str [215]),([116,105,109,101,115,98,59],.str [8864])]
noncomputable def d9:D:=.dct [([68,111,99,116,121,112,101],.int 0),([67,104,97,114,97,99,116,101,114,115],.int 1),([83,112,97,99,101,67,104,97,114,97,99,116,101,114,115],.int 2),([83,116,97,114,116,84,97,103],.int 3),([69,110,100,84,97,103],.int 4),([69,109,112,116,121,84,97,103],.int 5),([67,111,109,109,101,110,116],.int 6),([80,97,114,115,101,69,114,114,111,114],.int 7)]
noncomputable def lN:D:=.tup [.int 3,.int 4,.int 5]
noncomputable def MO:Cl:=⟨73,[(Xn,63),([114,101,97,100],70)],
 [ML,Ho],[]⟩
noncomputable def fD:Cl:=⟨166,[(Xn,98),([114,101,115,101,116],105),([111,112,101,110,83,116,114,101,97,109],112),([95,112,111,115,105,116,105,111,110],119),([112,111,115,105,116,105,111,110],126),([99,104,97,114],133),([114,101,97,100,67,104,117,110,107],141),([99,104,97,114,97,99,116,101,114,69,114,114,111,114,115,85,67,83,52],148),([99,104,97,114,115,85,110,116,105,108],156),([117,110,103,101,116],163)],
 [fL,v4,qQ,Hp,sX,oH,Cj,m6,oI,hX],[([95,100,101,102,97,117,108,116,67,104,117,110,107,83,105,122,101],.dat (.int 10240))]⟩
noncomputable def Cr:Cl:=⟨230,[([95,95,99,111,110,116,97,105,110,115,95,95],199),([104,97,115,95,107,101,121,115,95,119,105,116,104,95,112,114,101,102,105,120],220),([108,111,110,103,101,115,116,95,112,114,101,102,105,120],227)],
 [MM,MN,v5,oJ],[]⟩
noncomputable def f9:Cl:=⟨762,[(Xn,261),([95,95,105,116,101,114,95,95],268),([99,111,110,115,117,109,101,78,117,109,98,101,114,69,110,116,105,116,121],275),([99,111,110,115,117,109,101,69,110,116,105,116,121],283),([112,114,111,99,101,115,115,69,110,116,105,116,121,73,110,65,116,116,114,105,98,117,116,101],290),([101,109,105,116,67,117,114,114,101,110,116,84,111,107,101,110],297),([100,97,116,97,83,116,97,116,101],304),([101,110,116,105,116,121,68,97,116,97,83,116,97,116,101],311),([116,97,103,79,112,101,110,83,116,97,116,101],353),([99,108,111,115,101,84,97,103,79,112,101,110,83,116,97,116,101],360),([116,97,103,78,97,109,101,83,116,97,116,101],367),([98,101,102,111,114,101,65,116,116,114,105,98,117,116,101,78,97,109,101,83,116,97,116,101],535),([97,116,116,114,105,98,117,116,101,78,97,109,101,83,116,97,116,101],542),([98,101,102,111,114,101,65,116,116,114,105,98,117,116,101,86,97,108,117,101,83,116,97,116,101],556),([97,116,116,114,105,98,117,116,101,86,97,108,117,101,68,111,117,98,108,101,81,117,111,116,101,100,83,116,97,116,101],563),([97,116,116,114,105,98,117,116,101,86,97,108,117,101,83,105,110,103,108,101,81,117,111,116,101,100,83,116,97,116,101],570),([97,116,116,114,105,98,117,116,101,86,97,108,117,101,85,110,81,117,111,116,101,100,83,116,97,116,101],577),([97,102,116,101,114,65,116,116,114,105,98,117,116,101,86,97,108,117,101,83,116,97,116,101],584),([115,101,108,102,67,108,111,115,105,110,103,83,116,97,114,116,84,97,103,83,116,97,116,101],591),([98,111,103,117,115,67,111,109,109,101,110,116,83,116,97,116,101],598),([109,97,114,107,117,112,68,101,99,108,97,114,97,116,105,111,110,79,112,101,110,83,116,97,116,101],605),([99,111,109,109,101,110,116,83,116,97,114,116,83,116,97,116,101],612),([99,111,109,109,101,110,116,83,116,97,114,116,68,97,115,104,83,116,97,116,101],619),([99,111,109,109,101,110,116,83,116,97,116,101],626),([99,111,109,109,101,110,116,69,110,100,68,97,115,104,83,116,97,116,101],633),([99,111,109,109,101,110,116,69,110,100,83,116,97,116,101],640),([100,111,99,116,121,112,101,83,116,97,116,101],654),([98,101,102,111,114,101,68,111,99,116,121,112,101,78,97,109,101,83,116,97,116,101],661),([100,111,99,116,121,112,101,78,97,109,101,83,116,97,116,101],668),([97,102,116,101,114,68,111,99,116,121,112,101,78,97,109,101,83,116,97,116,101],675)],
 [Ck,Co,qR,lM,Hq,Cp,m7,qS],[]⟩
noncomputable def v6:D:=.lst [.str [65,77,80],.str [65,77,80,59],.str [69,97,99,117,116,101],.str [69,97,99,117,116,101,59],.str [77,111,112,102,59],.str [97,99,59],.str [97,99,69,59],.str [97,99,117,116,101],.str [97,99,117,116,101,59],.str [97,109,112],.str Xg,.str [97,110,103,59],.str [97,110,103,108,101,59],.str [98,110,101,59],.str [99,111,112,121],.str [99,111,112,121,59],.str [101,97,99,117,116,101],.str [101,97,99,117,116,101,59],.str [102,114,97,99,49,50],.str [102,114,97,99,49,50,59],.str [103,116],.str [103,116,59],.str [108,116],.str [108,116,59],.str [110,98,115,112],.str [110,98,115,112,59],.str [110,111,116],.str [110,111,116,59],.str Xa,.str [110,111,116,110,105,59],.str [112,97,114,97],.str [112,97,114,97,59],.str [112,97,114,97,108,108,101,108,59],.str [113,117,111,116],.str [113,117,111,116,59],.str [115,117,112,49],.str [115,117,112,49,59],.str [115,117,112,50],.str [115,117,112,50,59],.str [115,117,112,59],.str [116,105,109,101,115],.str [116,105,109,101,115,59],.str [116,105,109,101,115,98,59]]
noncomputable def lV:Gam:=⟨[([95,119,97,108,108],.top 21),
 ([69,79,70],.dat QR),
 ([115,112,97,99,101,67,104,97,114,97,99,116,101,114,115],.dat b7),
 ([97,115,99,105,105,76,101,116,116,101,114,115],.dat cA),
 ([100,105,103,105,116,115],.dat Cq),
 ([104,101,120,68,105,103,105,116,115],.dat sY),
 ([97,115,99,105,105,76,111,119,101,114],.top 42),
 (Xq,.dat cY),
 (Xl,.dat d9),
 ([116,97,103,84,111,107,101,110,84,121,112,101,115],.dat lN),
 ([84,101,120,116],.top 73),
 ([95,105,115,95,105,110,118,97,108,105,100],.top 84),
 ([72,84,77,76,85,110,105,99,111,100,101,73,110,112,117,116,83,116,114,101,97,109],.top 166),
 ([98,105,115,101,99,116,95,108,101,102,116],.top 178),
 ([84,114,105,101],.top 230),
 ([72,84,77,76,84,111,107,101,110,105,122,101,114],.top 762),
 ([95,108,97,119,95,84,69,88,84,83],.top 773),
 ([95,108,97,119,95,78,65,77,69,83],.top 780),
 ([95,108,97,119,95,86,65,76,85,69,83],.top 787),
 ([95,108,97,119,95,78,79,84,69,83],.top 794),
 ([95,108,97,119,95,72,65,76,86,69,83],.top 801),
 ([95,108,97,119,95,79,84,72,69,82,83],.top 808),
 ([95,108,97,119,95,115,116,97,114,116],.top 815),
 ([95,108,97,119,95,97,102,116,101,114],.top 822),
 ([108,97,119],.top 827),
 ([101,110,116,105,116,105,101,115,84,114,105,101],.top 236),
 ([114,101,112,108,97,99,101,109,101,110,116,67,104,97,114,97,99,116,101,114,115],.top 46)],[MO,fD,Cr,f9],[⟨236,230,235,[(Xy,.dat cY),(Xw,.dat v6),(Xk,.dat (.str [])),(Xf,.dat (.tup [.int 0,.int 43]))]⟩],[(283,Xv,[Xd,Xb])],[([108,101,110],.blt "len"),([111,114,100],.blt "ord"),([99,104,114],.blt "chr"),([109,97,120],.blt "max"),([115,117,109],.blt "sum"),([114,97,110,103,101],.typ "range"),([100,105,99,116],.typ "dict"),([105,110,116],.typ "int"),([122,105,112],.typ "zip"),([75,101,121,69,114,114,111,114],.typ "KeyError")]⟩
noncomputable abbrev iU:Program:=PySem.Challenge.pw_te0044_01
noncomputable def qT:List (Nat×List Nat×List V):=[(42,[7],[]),
 (63,[13,0],[]),
 (70,[13,1],[]),
 (84,[14],[]),
 (98,[15,1],[]),
 (105,[15,2],[]),
 (112,[15,3],[]),
 (119,[15,4],[]),
 (126,[15,5],[]),
 (133,[15,6],[]),
 (141,[15,7],[.dat .non]),
 (148,[15,8],[]),
 (156,[15,9],[.dat (.boo false)]),
 (163,[15,10],[]),
 (178,[17],[.dat (.int 0),.dat .non]),
 (199,[18,1],[]),
 (220,[18,4],[]),
 (227,[18,5],[]),
 (261,[21,0],[.dat .non]),
 (275,[21,2],[]),
 (283,[21,3],[.dat .non,.dat (.boo false)]),
 (290,[21,4],[]),
 (297,[21,5],[]),
 (304,[21,6],[]),
 (311,[21,7],[]),
 (353,[21,13],[]),
 (360,[21,14],[]),
 (367,[21,15],[]),
 (535,[21,39],[]),
 (542,[21,40],[]),
 (556,[21,42],[]),
 (563,[21,43],[]),
 (570,[21,44],[]),
 (577,[21,45],[]),
 (584,[21,46],[]),
 (591,[21,47],[]),
 (598,[21,48],[]),
 (605,[21,49],[]),
 (612,[21,50],[]),
 (619,[21,51],[]),
 (626,[21,52],[]),
 (633,[21,53],[]),
 (640,[21,54],[]),
 (654,[21,56],[]),
 (661,[21,57],[]),
 (668,[21,58],[]),
 (675,[21,59],[]),
 (773,[23],[]),
 (780,[24],[]),
 (787,[25],[]),
 (794,[26],[]),
 (801,[27],[]),
 (808,[28],[]),
 (815,[29],[]),
 (822,[30],[]),
 (827,[31],[])]
noncomputable def Hr:List (Nat×Fn):=qT.map fun x=>(x.1,kS iU x.2.1 x.2.2)
noncomputable def AN:Nat×List Nat:=(268,[21,1])
noncomputable abbrev bS:=Zc iU lV Hr
end
section
noncomputable def qU:PySem.W.BT→Nat→List Obj→Option PySem.W.BT
 |t,_,[]=>some t
 |t,n,o::r=>match((t.ins n o).get n).isSome with
  |true=>qU (t.ins n o) (n+1) r
  |false=>none
theorem m8 {life:Life}:∀ (l:List Obj) (t t':PySem.W.BT) (n:Nat),qU t n l=some t'→
  absHeap t' (n+l.length) life=⟨(absHeap t n life).objs++l.toArray,life⟩
 | [],t,t',n,h=>by
  cases h
  show absHeap t n life=_
  simp[absHeap,PySem.W.BT.list]
 |o::r,t,t',n,h=>by
  unfold qU at h
  cases g:((t.ins n o).get n).isSome with
  |false=>rw[g]at h;cases h
  |true=>
   rw[g]at h
   have ih:=m8 (life:=life) r (t.ins n o) t' (n+1) h
   rw[absHeap_ins g]at ih
   have e:n+(o::r).length=n+1+r.length:=by simp only[List.length_cons];lia
   rw[e,ih]
   show Heap.mk _ _=Heap.mk _ _
   congr 1
   show((absHeap t n life).objs.push o)++r.toArray=_
   rw[← Array.toList_inj]
   simp
noncomputable def Tl (s:Shared):Option SharedT:=match qU .nil 0 s.heap.objs.toList with
 |some t=>some ⟨t,s.heap.objs.size,s.heap.life,s.gens,s.drawn,s.toks,s.os⟩
 |none=>none
set_option tactic.hygienic true in
theorem Hs {s:Shared}{T:SharedT}(h:Tl s=some T):T.abs=s:=by
 unfold Tl at h
 split at h
 ·rename_i t e
  cases h
  have:=m8 (life:=s.heap.life) _ _ _ _ e
  obtain⟨⟨objs,life⟩,gens,drawn,toks,os⟩:=s
  show Shared.mk (absHeap t objs.size life) gens drawn toks os=_
  dsimp only at this
  rw[Nat.zero_add,Array.length_toList]at this
  rw[this]
  simp[absHeap,PySem.W.BT.list]
 ·cases h
noncomputable def runT (stp:SharedT→Thread→Option (SharedT×Thread))(ok:Thread→Bool):Nat→SharedT→Thread→Option SharedT
 |0,_,_=>none
 |n+1,s,t=>match through t with
  |true=>some s
  |false=>match ok t with
   |false=>none
   |true=>match stp s t with
    |some (s',t')=>runT stp ok n s' t'
    |none=>none
theorem pI {tb:String→Option Builtin}{p:Program}{w:World}{n₀:Nat}{ann:Option Value}:∀ (n:Nat) (s s':SharedT) (t:Thread),
  runT (stepT (denote tb) p w) (stepOk n₀ ann) n s t=some s'→topRun tb p w n₀ ann n s.abs t=some s'.abs
 |0,_,_,_,h=>by cases h
 |n+1,s,s',t,h=>by
  unfold runT at h
  unfold topRun
  cases ht:through t with
  |true=>rw[ht]at h;cases h;rfl
  |false=>
   rw[ht]at h
   cases hk:stepOk n₀ ann t with
   |false=>rw[hk]at h;cases h
   |true=>
    rw[hk]at h
    cases hs:stepT (denote tb) p w s t with
    |none=>rw[hs]at h;cases h
    |some r=>obtain⟨s₂,t₂⟩:=r;rw[hs]at h;rw[stepT_spec hs];exact pI n _ _ _ h
noncomputable def MP (fenced:Option Shared)(stp:SharedT→Thread→Option (SharedT×Thread))(ok:Nat→Option Value→Thread→Bool)(nsm:Heap→Addr→Str→Option Value)
  (stub:Thread)(stat:Heap→Heap→Bool)(nb:Heap→Bool)(gd:Shared→Bool)(lk:Heap→Heap→Bool)(N:Nat):Option SharedT:=
 match fenced with
 |none=>none
 |some s₀=>match s₀.heap.isNs mainGlobals&&s₀.gens.size==0 with
  |false=>none
  |true=>match Tl s₀ with
   |none=>none
   |some T=>match runT stp (ok s₀.heap.objs.size (nsm s₀.heap mainGlobals "__annotations__")) N T stub with
    |none=>none
    |some T'=>match stat s₀.heap T'.abs.heap&&nb T'.abs.heap&&gd T'.abs&&lk s₀.heap T'.abs.heap with
     |true=>some T'
     |false=>none
theorem AO {p:Program}{w:World}{N:Nat}{T':SharedT}
  (h:MP (fencedOpening treeTable p w N) (stepT (denote treeTable) p w) stepOk Heap.nsMap (topStub p) (staticsOk (importedModules p.main.body)) (namesBound p) gensDone laidKept N=some T'):
  openEnds treeTable p w N=some T'.abs:=by
 unfold MP at h
 unfold openEnds
 cases h0:fencedOpening treeTable p w N with
 |none=>rw[h0]at h;cases h
 |some s₀=>
  rw[h0]at h
  dsimp only at h
  rw[Option.bind_some]
  unfold topFrom
  cases hg:(s₀.heap.isNs mainGlobals&&s₀.gens.size==0)with
  |false=>rw[hg]at h;cases h
  |true=>
   rw[hg]at h
   dsimp only at h ⊢
   cases hT:Tl s₀ with
   |none=>rw[hT]at h;cases h
   |some T=>
    rw[hT]at h
    dsimp only at h
    cases hr:runT (stepT (denote treeTable) p w) (stepOk s₀.heap.objs.size (s₀.heap.nsMap mainGlobals "__annotations__")) N T (topStub p)with
    |none=>rw[hr]at h;cases h
    |some T₁=>
     rw[hr]at h
     dsimp only at h
     have e:=pI _ _ _ _ hr
     rw[Hs hT]at e
     rw[e,Option.bind_some]
     cases hc:(staticsOk (importedModules p.main.body) s₀.heap T₁.abs.heap&&namesBound p T₁.abs.heap&&gensDone T₁.abs&&laidKept s₀.heap T₁.abs.heap)with
     |false=>rw[hc]at h;cases h
     |true=>rw[hc]at h;dsimp only at h ⊢;rw[Option.some.inj h]
noncomputable def sZ (as:List Nat)(T:SharedT):Frag:=as.filterMap fun a=>match Nat.blt a T.n with
 |true=>(alive ((T.tree.get a).getD default)).map fun o=>(a,o)
 |false=>none
noncomputable def kT (as:List Nat)(s:Shared):Frag:=as.filterMap fun a=>(s.heap.get? a).map fun o=>(a,o)
theorem yE (as:List Nat)(T:SharedT):sZ as T=kT as T.abs:=by
 unfold sZ kT
 congr 1
 funext a
 show _=((absHeap T.tree T.n T.life).get? a).map _
 unfold Heap.get?
 rw[absHeap_at]
 cases h:Nat.blt a T.n with
 |false=>
  have:¬ a<T.n:=fun q=>by
   have:=Nat.ble_eq.mpr (show a+1≤T.n from q)
   rw[show Nat.blt a T.n=Nat.ble (a+1) T.n from rfl]at h
   rw[h]at this;cases this
  rw[if_neg this];rfl
 |true=>
  have:a<T.n:=Nat.le_of_ble_eq_true h
  rw[if_pos this]
  dsimp only
  generalize (T.tree.get a).getD default=o
  obtain⟨c,d,dt,sl⟩:=o
  cases dt <;>rfl
theorem MQ {as:List Nat}{s:Shared}{a:Addr}{o:Obj}(h:(kT as s).lookup a=some o):s.heap.get? a=some o:=by
 unfold kT at h
 induction as with
 |nil=>cases h
 |cons b as ih=>
  rw[List.filterMap_cons]at h
  cases e:s.heap.get? b with
  |none=>rw[e]at h;exact ih h
  |some o'=>
   rw[e]at h
   dsimp only[Option.map_some]at h
   rw[List.lookup_cons]at h
   cases q:a==b with
   |true=>rw[q]at h;cases h;rw[beq_iff_eq.mp q];exact e
   |false=>rw[q]at h;exact ih h
noncomputable abbrev QS:=PySem.W.Fast.tw11892475500146522536
noncomputable abbrev Ht:=PySem.W.Fast.tw14364793385576792824
noncomputable abbrev Cs:=PySem.W.Fast.tw10156331382660048174
noncomputable abbrev WN:=PySem.W.Fast.tw6613529449190102663
noncomputable abbrev WO:=PySem.W.Fast.tw8920871248978507458
noncomputable abbrev QT:=PySem.W.Fast.tw10274390034422433532
noncomputable abbrev QU:=PySem.W.Fast.tw14289696077712309145
noncomputable abbrev MR:=PySem.W.Fast.tw1435165496053646825
noncomputable abbrev yF:=PySem.W.Fast.tw4187177175401517315
noncomputable def Ug (p:Program)(w:World)(N:Nat):Option Shared:=(QT Ht (opening p) w N (MR (opening p)).1 (MR (opening p)).2).bind (QU p)
noncomputable def Ct (p:Program)(w:World)(N:Nat):Option SharedT:=MP (Ug p w N) (Cs (QS Ht) p w) WN WO (topStub p) (staticsOk (importedModules p.main.body)) (namesBound p) gensDone laidKept N
theorem MS (p:Program)(w:World)(N:Nat):Ug p w N=fencedOpening treeTable p w N:=by
 unfold Ug fencedOpening
 have e1: @importEnds=QT:=PySem.W.Fast.te10274390034422433532
 have e2: @treeTable=Ht:=PySem.W.Fast.te14364793385576792824
 have e3: @start=MR:=PySem.W.Fast.te1435165496053646825
 have e4: @fenceModules?=QU:=PySem.W.Fast.te14289696077712309145
 rw[e1,e2,e3,e4]
theorem AP {p:Program}{w:World}{N:Nat}{T':SharedT}(h:Ct p w N=some T'):openEnds treeTable p w N=some T'.abs:=by
 refine AO ?_
 unfold Ct at h
 rw[MS]at h
 have e1: @stepT=Cs:=PySem.W.Fast.te10156331382660048174
 have e2: @treeTable=Ht:=PySem.W.Fast.te14364793385576792824
 have e3: @denote=QS:=PySem.W.Fast.te11892475500146522536
 have e4: @stepOk=WN:=PySem.W.Fast.te6613529449190102663
 have e5: @Heap.nsMap=WO:=PySem.W.Fast.te8920871248978507458
 rw[e1,e3,e4,e5]
 rw[← e2]at h
 exact h
theorem Cu (T:SharedT):T.abs.heap.objs.size=T.n:=by
 show(absHeap T.tree T.n T.life).objs.size=T.n
 simp[absHeap,PySem.W.BT.list]
theorem Hu {p q:Program}{loose:List Str}{α:Type}{N:Nat}{row:String}{as bs:List Nat}{see:Frag→Frag→Nat→Nat→α}{told:World→α}
  (h:∀ (w:World) (b:Bool),(Ct p (w.withFollow row b) N).map (fun T=>(yF q loose (importedModules p.main.body) (fun _=>true) true T.abs,see (sZ as T) (sZ bs T) T.toks T.n))=some (openGood q loose,told (w.withFollow row b))):
  LeftO p q loose (fun _=>true) (fun s=>see (kT as s) (kT bs s) s.toks s.heap.objs.size) told N:=by
 have k:∀ (w:World) (b:Bool),(openEnds treeTable p (w.withFollow row b) N).map (fun s=>(openSeen q loose (importedModules p.main.body) (fun _=>true) true s,see (kT as s) (kT bs s) s.toks s.heap.objs.size))=some (openGood q loose,told (w.withFollow row b)):=fun w b=>by
  obtain⟨T,e1,e2⟩:=Option.map_eq_some_iff.mp (h w b)
  rw[AP e1,Option.map_some]
  have e6: @openSeen=yF:=PySem.W.Fast.te4187177175401517315
  rw[e6,← e2,yE,yE,Cu]
  rfl
 exact byRow2 row (P:=fun w=>(openEnds treeTable p w N).map (fun s=>(openSeen q loose (importedModules p.main.body) (fun _=>true) true s,see (kT as s) (kT bs s) s.toks s.heap.objs.size))=some (openGood q loose,told w)) (fun w=>k w false) (fun w=>k w true)
end
section
noncomputable def lI:List Nat→List Stmt→Str×Str
 | [],_=>(st [],st [])
 |i::r,body=>match r,body[i]? with
  | [],some (.FunctionDef n _ _ _ _ _ _ _ _ _)=>(n,n)
  |r,some (.ClassDef n _ _ b _ _ _ _ _ _ _)=>((lI r b).1,n++"." ++(lI r b).2)
  |_,_=>(st [],st [])
noncomputable def Uh (a:Nat):Value:=match Nat.blt a 50 with
 |true=>.str (Str.ofString "html5lib.constants") 194
 |false=>match Nat.blt a 170 with
  |true=>.str (Str.ofString "html5lib._inputstream") 564
  |false=>match Nat.blt a 254 with
   |true=>.str (Str.ofString "html5lib._trie.py") 738
   |false=>match Nat.blt a 765 with
    |true=>.str (Str.ofString "html5lib._tokenizer") 827
    |false=>.str (Str.ofString "law_te0044_01") 1444
noncomputable def Ui (a:Nat)(ds:List V):Value:=match ds with
 | []=>.none
 |_=>.ref (a-7)
noncomputable abbrev Pl:=Nat×List Nat×List V
noncomputable def iM (x:Pl):Option FuncData:=(yA x.2.1 iU.main.body).map fun d=>
 {name:=(lI x.2.1 iU.main.body).1,qualname:=(lI x.2.1 iU.main.body).2,params:=d.1,body:=.stmts d.2.2,scope:=d.2.1,globals:=mainGlobals,closure:=[],defaults:=Ui x.1 x.2.2,kwdefaults:=.none,
  pyModule:=Uh x.1,code:=.ref (x.1-1),builtins:=builtinsNs}
noncomputable def Jm (x:Pl):Nat×Obj:=(x.1,match iM x with
 |some fd=>⟨.type "function",none,.func fd,#[]⟩
 |none=>default)
noncomputable def kU:List Pl:=(AN.1,AN.2,[])::qT
noncomputable def ke (P:Params)(n:String)(t:Nat)(v:Value):DictEntry:=⟨PyData.keyHash P (Str.ofString n),.str (Str.ofString n) t,v⟩
noncomputable def ki (i:Int)(t:Nat)(v:Value):DictEntry:=⟨hashInt i,.int i t,v⟩
noncomputable def QV (P:Params):Frag:=[(3,⟨.type "dict",none,.dict #[ke P "__name__" 165 (.str (Str.ofString "law_te0044_01") 1444),ke P "__doc__" 166 (.none),ke P "__package__" 167 (.none),ke P "__loader__" 168 (.builtin "__main__.__loader__#opaque"),ke P "__spec__" 169 (.none),ke P "__annotations__" 170 (.ref 6),ke P "__builtins__" 171 (.ref 4),ke P "__file__" 173 (.str (Str.ofString "/claim/cut.py") 172),ke P "__cached__" 174 (.none),ke P "_wall" 193 (.ref 21),ke P "EOF" 196 (.none),ke P "spaceCharacters" 202 (.ref 22),ke P "asciiLetters" 256 (.ref 27),ke P "digits" 268 (.ref 32),ke P "hexDigits" 292 (.ref 37),ke P "asciiLower" 298 (.ref 42),ke P "entities" 428 (.ref 43),ke P "replacementCharacters" 531 (.ref 46),ke P "tokenTypes" 556 (.ref 48),ke P "tagTokenTypes" 563 (.ref 49),ke P "Text" 604 (.ref 73),ke P "_is_invalid" 611 (.ref 84),ke P "HTMLUnicodeInputStream" 737 (.ref 166),ke P "bisect_left" 751 (.ref 178),ke P "Trie" 826 (.ref 230),ke P "entitiesTrie" 843 (.ref 236),ke P "HTMLTokenizer" 1443 (.ref 762),ke P "_law_TEXTS" 1451 (.ref 773),ke P "_law_NAMES" 1457 (.ref 780),ke P "_law_VALUES" 1463 (.ref 787),ke P "_law_NOTES" 1469 (.ref 794),ke P "_law_HALVES" 1475 (.ref 801),ke P "_law_OTHERS" 1481 (.ref 808),ke P "_law_start" 1498 (.ref 815),ke P "_law_after" 1510 (.ref 822),ke P "law" 1516 (.ref 827)] 36,#[]⟩),
 (72,⟨.type "dict",none,.dict #[ke P "__module__" 573 (.str (Str.ofString "html5lib._inputstream") 564),ke P "__firstlineno__" 577 (.int 17 576),ke P "__init__" 585 (.ref 63),ke P "read" 594 (.ref 70),ke P "__static_attributes__" 597 (.ref 71),ke P "__dict__" 599 (.ref 74),ke P "__weakref__" 601 (.ref 75),ke P "__doc__" 602 (.none)] 4,#[]⟩),
 (73,⟨.type "type",none,.cls {name:=Str.ofString "Text",bases:=[.type "object"],mro:=[.ref 73,.type "object"],ns:=72,qualname:=Str.ofString "Text"},#[some (.ref 50),none,some (.str (Str.ofString "Text") 566),some (.str (Str.ofString "Text") 574),some (.builtin "object.__new__"),some (.bool true)]⟩),
 (165,⟨.type "dict",none,.dict #[ke P "__module__" 619 (.str (Str.ofString "html5lib._inputstream") 564),ke P "__firstlineno__" 623 (.int 29 622),ke P "_defaultChunkSize" 625 (.int 10240 624),ke P "__init__" 633 (.ref 98),ke P "reset" 640 (.ref 105),ke P "openStream" 649 (.ref 112),ke P "_position" 662 (.ref 119),ke P "position" 671 (.ref 126),ke P "char" 680 (.ref 133),ke P "readChunk" 690 (.ref 141),ke P "characterErrorsUCS4" 699 (.ref 148),ke P "charsUntil" 711 (.ref 156),ke P "unget" 719 (.ref 163),ke P "__static_attributes__" 730 (.ref 164),ke P "__dict__" 732 (.ref 167),ke P "__weakref__" 734 (.ref 168),ke P "__doc__" 735 (.none)] 4,#[]⟩),
 (166,⟨.type "type",none,.cls {name:=Str.ofString "HTMLUnicodeInputStream",bases:=[.type "object"],mro:=[.ref 166,.type "object"],ns:=165,qualname:=Str.ofString "HTMLUnicodeInputStream"},#[some (.ref 85),none,some (.str (Str.ofString "HTMLUnicodeInputStream") 612),some (.str (Str.ofString "HTMLUnicodeInputStream") 620),some (.builtin "object.__new__"),some (.bool true)]⟩),
 (229,⟨.type "dict",none,.dict #[ke P "__module__" 759 (.str (Str.ofString "html5lib._trie.py") 738),ke P "__firstlineno__" 763 (.int 144 762),ke P "__init__" 771 (.ref 192),ke P "__contains__" 779 (.ref 199),ke P "__len__" 786 (.ref 206),ke P "__getitem__" 794 (.ref 213),ke P "has_keys_with_prefix" 805 (.ref 220),ke P "longest_prefix" 814 (.ref 227),ke P "__static_attributes__" 819 (.ref 228),ke P "__dict__" 821 (.ref 231),ke P "__weakref__" 823 (.ref 232),ke P "__doc__" 824 (.none)] 4,#[]⟩),
 (230,⟨.type "type",none,.cls {name:=Str.ofString "Trie",bases:=[.type "object"],mro:=[.ref 230,.type "object"],ns:=229,qualname:=Str.ofString "Trie"},#[some (.ref 179),none,some (.str (Str.ofString "Trie") 752),some (.str (Str.ofString "Trie") 760),some (.builtin "object.__new__"),some (.bool true)]⟩),
 (761,⟨.type "dict",none,.dict #[ke P "__module__" 851 (.str (Str.ofString "html5lib._tokenizer") 827),ke P "__firstlineno__" 855 (.int 182 854),ke P "__init__" 864 (.ref 261),ke P "__iter__" 871 (.ref 268),ke P "consumeNumberEntity" 886 (.ref 275),ke P "consumeEntity" 901 (.ref 283),ke P "processEntityInAttribute" 909 (.ref 290),ke P "emitCurrentToken" 919 (.ref 297),ke P "dataState" 928 (.ref 304),ke P "entityDataState" 935 (.ref 311),ke P "rcdataState" 942 (.ref 318),ke P "characterReferenceInRcdata" 949 (.ref 325),ke P "rawtextState" 956 (.ref 332),ke P "scriptDataState" 963 (.ref 339),ke P "plaintextState" 970 (.ref 346),ke P "tagOpenState" 978 (.ref 353),ke P "closeTagOpenState" 986 (.ref 360),ke P "tagNameState" 994 (.ref 367),ke P "rcdataLessThanSignState" 1001 (.ref 374),ke P "rcdataEndTagOpenState" 1008 (.ref 381),ke P "rcdataEndTagNameState" 1015 (.ref 388),ke P "rawtextLessThanSignState" 1022 (.ref 395),ke P "rawtextEndTagOpenState" 1029 (.ref 402),ke P "rawtextEndTagNameState" 1036 (.ref 409),ke P "scriptDataLessThanSignState" 1043 (.ref 416),ke P "scriptDataEndTagOpenState" 1050 (.ref 423),ke P "scriptDataEndTagNameState" 1057 (.ref 430),ke P "scriptDataEscapeStartState" 1064 (.ref 437),ke P "scriptDataEscapeStartDashState" 1071 (.ref 444),ke P "scriptDataEscapedState" 1078 (.ref 451),ke P "scriptDataEscapedDashState" 1085 (.ref 458),ke P "scriptDataEscapedDashDashState" 1092 (.ref 465),ke P "scriptDataEscapedLessThanSignState" 1099 (.ref 472),ke P "scriptDataEscapedEndTagOpenState" 1106 (.ref 479),ke P "scriptDataEscapedEndTagNameState" 1113 (.ref 486),ke P "scriptDataDoubleEscapeStartState" 1120 (.ref 493),ke P "scriptDataDoubleEscapedState" 1127 (.ref 500),ke P "scriptDataDoubleEscapedDashState" 1134 (.ref 507),ke P "scriptDataDoubleEscapedDashDashState" 1141 (.ref 514),ke P "scriptDataDoubleEscapedLessThanSignState" 1148 (.ref 521),ke P "scriptDataDoubleEscapeEndState" 1155 (.ref 528),ke P "beforeAttributeNameState" 1163 (.ref 535),ke P "attributeNameState" 1175 (.ref 542),ke P "afterAttributeNameState" 1183 (.ref 549),ke P "beforeAttributeValueState" 1191 (.ref 556),ke P "attributeValueDoubleQuotedState" 1199 (.ref 563),ke P "attributeValueSingleQuotedState" 1207 (.ref 570),ke P "attributeValueUnQuotedState" 1215 (.ref 577),ke P "afterAttributeValueState" 1223 (.ref 584),ke P "selfClosingStartTagState" 1231 (.ref 591),ke P "bogusCommentState" 1239 (.ref 598),ke P "markupDeclarationOpenState" 1249 (.ref 605),ke P "commentStartState" 1257 (.ref 612),ke P "commentStartDashState" 1265 (.ref 619),ke P "commentState" 1273 (.ref 626),ke P "commentEndDashState" 1281 (.ref 633),ke P "commentEndState" 1289 (.ref 640),ke P "commentEndBangState" 1297 (.ref 647),ke P "doctypeState" 1305 (.ref 654),ke P "beforeDoctypeNameState" 1313 (.ref 661),ke P "doctypeNameState" 1321 (.ref 668),ke P "afterDoctypeNameState" 1331 (.ref 675),ke P "afterDoctypePublicKeywordState" 1339 (.ref 682),ke P "beforeDoctypePublicIdentifierState" 1347 (.ref 689),ke P "doctypePublicIdentifierDoubleQuotedState" 1355 (.ref 696),ke P "doctypePublicIdentifierSingleQuotedState" 1363 (.ref 703),ke P "afterDoctypePublicIdentifierState" 1371 (.ref 710),ke P "betweenDoctypePublicAndSystemIdentifiersState" 1379 (.ref 717),ke P "afterDoctypeSystemKeywordState" 1387 (.ref 724),ke P "beforeDoctypeSystemIdentifierState" 1395 (.ref 731),ke P "doctypeSystemIdentifierDoubleQuotedState" 1403 (.ref 738),ke P "doctypeSystemIdentifierSingleQuotedState" 1411 (.ref 745),ke P "afterDoctypeSystemIdentifierState" 1419 (.ref 752),ke P "bogusDoctypeState" 1427 (.ref 759),ke P "__static_attributes__" 1436 (.ref 760),ke P "__dict__" 1438 (.ref 763),ke P "__weakref__" 1440 (.ref 764),ke P "__doc__" 1441 (.none)] 4,#[]⟩),
 (762,⟨.type "type",none,.cls {name:=Str.ofString "HTMLTokenizer",bases:=[.type "object"],mro:=[.ref 762,.type "object"],ns:=761,qualname:=Str.ofString "HTMLTokenizer"},#[some (.ref 247),none,some (.str (Str.ofString "HTMLTokenizer") 844),some (.str (Str.ofString "HTMLTokenizer") 852),some (.builtin "object.__new__"),some (.bool true)]⟩),
 (1,⟨.type "dict",none,.dict #[ke P "builtins" 162 (.ref 4),ke P "__main__" 163 (.ref 5)] 2,#[]⟩),
 (2,⟨.none,none,.dict #[] 0,#[]⟩),
 (22,⟨.type "tuple",none,.seq #[.str (Str.ofString "\t") 197,.str (Str.ofString "\n") 198,.str (Str.ofString "\x0c") 199,.str (Str.ofString " ") 200,.str (Str.ofString "\x0d") 201] 0,#[]⟩),
 (27,⟨.type "tuple",none,.seq #[.str (Str.ofString "a") 204,.str (Str.ofString "b") 205,.str (Str.ofString "c") 206,.str (Str.ofString "d") 207,.str (Str.ofString "e") 208,.str (Str.ofString "f") 209,.str (Str.ofString "g") 210,.str (Str.ofString "h") 211,.str (Str.ofString "i") 212,.str (Str.ofString "j") 213,.str (Str.ofString "k") 214,.str (Str.ofString "l") 215,.str (Str.ofString "m") 216,.str (Str.ofString "n") 217,.str (Str.ofString "o") 218,.str (Str.ofString "p") 219,.str (Str.ofString "q") 220,.str (Str.ofString "r") 221,.str (Str.ofString "s") 222,.str (Str.ofString "t") 223,.str (Str.ofString "u") 224,.str (Str.ofString "v") 225,.str (Str.ofString "w") 226,.str (Str.ofString "x") 227,.str (Str.ofString "y") 228,.str (Str.ofString "z") 229,.str (Str.ofString "A") 230,.str (Str.ofString "B") 231,.str (Str.ofString "C") 232,.str (Str.ofString "D") 233,.str (Str.ofString "E") 234,.str (Str.ofString "F") 235,.str (Str.ofString "G") 236,.str (Str.ofString "H") 237,.str (Str.ofString "I") 238,.str (Str.ofString "J") 239,.str (Str.ofString "K") 240,.str (Str.ofString "L") 241,.str (Str.ofString "M") 242,.str (Str.ofString "N") 243,.str (Str.ofString "O") 244,.str (Str.ofString "P") 245,.str (Str.ofString "Q") 246,.str (Str.ofString "R") 247,.str (Str.ofString "S") 248,.str (Str.ofString "T") 249,.str (Str.ofString "U") 250,.str (Str.ofString "V") 251,.str (Str.ofString "W") 252,.str (Str.ofString "X") 253,.str (Str.ofString "Y") 254,.str (Str.ofString "Z") 255] 0,#[]⟩),
 (32,⟨.type "tuple",none,.seq #[.str (Str.ofString "0") 258,.str (Str.ofString "1") 259,.str (Str.ofString "2") 260,.str (Str.ofString "3") 261,.str (Str.ofString "4") 262,.str (Str.ofString "5") 263,.str (Str.ofString "6") 264,.str (Str.ofString "7") 265,.str (Str.ofString "8") 266,.str (Str.ofString "9") 267] 0,#[]⟩),
 (37,⟨.type "tuple",none,.seq #[.str (Str.ofString "0") 270,.str (Str.ofString "1") 271,.str (Str.ofString "2") 272,.str (Str.ofString "3") 273,.str (Str.ofString "4") 274,.str (Str.ofString "5") 275,.str (Str.ofString "6") 276,.str (Str.ofString "7") 277,.str (Str.ofString "8") 278,.str (Str.ofString "9") 279,.str (Str.ofString "a") 280,.str (Str.ofString "b") 281,.str (Str.ofString "c") 282,.str (Str.ofString "d") 283,.str (Str.ofString "e") 284,.str (Str.ofString "f") 285,.str (Str.ofString "A") 286,.str (Str.ofString "B") 287,.str (Str.ofString "C") 288,.str (Str.ofString "D") 289,.str (Str.ofString "E") 290,.str (Str.ofString "F") 291] 0,#[]⟩),
 (49,⟨.type "tuple",none,.seq #[.int 3 539,.int 4 541,.int 5 543] 0,#[]⟩),
 (134,⟨.type "tuple",none,.seq #[.none] 0,#[]⟩),
 (149,⟨.type "tuple",none,.seq #[.bool false] 0,#[]⟩),
 (171,⟨.type "tuple",none,.seq #[.int 0 740,.none] 0,#[]⟩),
 (243,⟨.type "list",none,.seq #[.str (Str.ofString "AMP") 299,.str (Str.ofString "AMP;") 302,.str (Str.ofString "Eacute") 305,.str (Str.ofString "Eacute;") 308,.str (Str.ofString "Mopf;") 311,.str (Str.ofString "ac;") 314,.str (Str.ofString "acE;") 317,.str (Str.ofString "acute") 320,.str (Str.ofString "acute;") 323,.str (Str.ofString "amp") 326,.str (Str.ofString "amp;") 329,.str (Str.ofString "ang;") 332,.str (Str.ofString "angle;") 335,.str (Str.ofString "bne;") 338,.str (Str.ofString "copy") 341,.str (Str.ofString "copy;") 344,.str (Str.ofString "eacute") 347,.str (Str.ofString "eacute;") 350,.str (Str.ofString "frac12") 353,.str (Str.ofString "frac12;") 356,.str (Str.ofString "gt") 359,.str (Str.ofString "gt;") 362,.str (Str.ofString "lt") 365,.str (Str.ofString "lt;") 368,.str (Str.ofString "nbsp") 371,.str (Str.ofString "nbsp;") 374,.str (Str.ofString "not") 377,.str (Str.ofString "not;") 380,.str (Str.ofString "notin;") 383,.str (Str.ofString "notni;") 386,.str (Str.ofString "para") 389,.str (Str.ofString "para;") 392,.str (Str.ofString "parallel;") 395,.str (Str.ofString "quot") 398,.str (Str.ofString "quot;") 401,.str (Str.ofString "sup1") 403,.str (Str.ofString "sup1;") 405,.str (Str.ofString "sup2") 407,.str (Str.ofString "sup2;") 409,.str (Str.ofString "sup;") 411,.str (Str.ofString "times") 413,.str (Str.ofString "times;") 415,.str (Str.ofString "timesb;") 417] 2,#[]⟩),
 (246,⟨.type "tuple",none,.seq #[.int 0 838,.int 43 840] 0,#[]⟩),
 (254,⟨.type "tuple",none,.seq #[.none] 0,#[]⟩),
 (276,⟨.type "tuple",none,.seq #[.none,.bool false] 0,#[]⟩),
 (48,⟨.type "dict",none,.dict #[ke P "Doctype" 532 (.int 0 533),ke P "Characters" 534 (.int 1 535),ke P "SpaceCharacters" 536 (.int 2 537),ke P "StartTag" 538 (.int 3 539),ke P "EndTag" 540 (.int 4 541),ke P "EmptyTag" 542 (.int 5 543),ke P "Comment" 544 (.int 6 545),ke P "ParseError" 546 (.int 7 547)] 8,#[]⟩),
 (43,⟨.type "dict",none,.dict #[ke P "AMP" 299 (.str (Str.ofString "&") 300),ke P "AMP;" 302 (.str (Str.ofString "&") 303),ke P "Eacute" 305 (.str (Str.ofString "É") 306),ke P "Eacute;" 308 (.str (Str.ofString "É") 309),ke P "Mopf;" 311 (.str (Str.ofString "𝕄") 312),ke P "ac;" 314 (.str (Str.ofString "∾") 315),ke P "acE;" 317 (.str (Str.ofString "∾̳") 318),ke P "acute" 320 (.str (Str.ofString "´") 321),ke P "acute;" 323 (.str (Str.ofString "´") 324),ke P "amp" 326 (.str (Str.ofString "&") 327),ke P "amp;" 329 (.str (Str.ofString "&") 330),ke P "ang;" 332 (.str (Str.ofString "∠") 333),ke P "angle;" 335 (.str (Str.ofString "∠") 336),ke P "bne;" 338 (.str (Str.ofString "=⃥") 339),ke P "copy" 341 (.str (Str.ofString "©") 342),ke P "copy;" 344 (.str (Str.ofString "©") 345),ke P "eacute" 347 (.str (Str.ofString "é") 348),ke P "eacute;" 350 (.str (Str.ofString "é") 351),ke P "frac12" 353 (.str (Str.ofString "½") 354),ke P "frac12;" 356 (.str (Str.ofString "½") 357),ke P "gt" 359 (.str (Str.ofString ">") 360),ke P "gt;" 362 (.str (Str.ofString ">") 363),ke P "lt" 365 (.str (Str.ofString "<") 366),ke P "lt;" 368 (.str (Str.ofString "<") 369),ke P "nbsp" 371 (.str (Str.ofString " ") 372),ke P "nbsp;" 374 (.str (Str.ofString " ") 375),ke P "not" 377 (.str (Str.ofString "¬") 378),ke P "not;" 380 (.str (Str.ofString "¬") 381),ke P "notin;" 383 (.str (Str.ofString "∉") 384),ke P "notni;" 386 (.str (Str.ofString "∌") 387),ke P "para" 389 (.str (Str.ofString "¶") 390),ke P "para;" 392 (.str (Str.ofString "¶") 393),ke P "parallel;" 395 (.str (Str.ofString "∥") 396),ke P "quot" 398 (.str (Str.ofString "\"") 399),ke P "quot;" 401 (.str (Str.ofString "\"") 402),ke P "sup1" 403 (.str (Str.ofString "¹") 404),ke P "sup1;" 405 (.str (Str.ofString "¹") 406),ke P "sup2" 407 (.str (Str.ofString "²") 408),ke P "sup2;" 409 (.str (Str.ofString "²") 410),ke P "sup;" 411 (.str (Str.ofString "⊃") 412),ke P "times" 413 (.str (Str.ofString "×") 414),ke P "times;" 415 (.str (Str.ofString "×") 416),ke P "timesb;" 417 (.str (Str.ofString "⊠") 418)] 43,#[]⟩),
 (46,⟨.type "dict",none,.dict #[ki 0 429 (.str (Str.ofString "�") 430),ki 13 432 (.str (Str.ofString "\x0d") 433),ki 128 435 (.str (Str.ofString "€") 436),ki 129 438 (.str (Str.ofString "") 439),ki 130 441 (.str (Str.ofString "‚") 442),ki 131 444 (.str (Str.ofString "ƒ") 445),ki 132 447 (.str (Str.ofString "„") 448),ki 133 450 (.str (Str.ofString "…") 451),ki 134 453 (.str (Str.ofString "†") 454),ki 135 456 (.str (Str.ofString "‡") 457),ki 136 459 (.str (Str.ofString "ˆ") 460),ki 137 462 (.str (Str.ofString "‰") 463),ki 138 465 (.str (Str.ofString "Š") 466),ki 139 468 (.str (Str.ofString "‹") 469),ki 140 471 (.str (Str.ofString "Œ") 472),ki 141 474 (.str (Str.ofString "") 475),ki 142 477 (.str (Str.ofString "Ž") 478),ki 143 480 (.str (Str.ofString "") 481),ki 144 483 (.str (Str.ofString "") 484),ki 145 486 (.str (Str.ofString "‘") 487),ki 146 489 (.str (Str.ofString "’") 490),ki 147 492 (.str (Str.ofString "“") 493),ki 148 495 (.str (Str.ofString "”") 496),ki 149 498 (.str (Str.ofString "•") 499),ki 150 501 (.str (Str.ofString "–") 502),ki 151 504 (.str (Str.ofString "—") 505),ki 152 507 (.str (Str.ofString "˜") 508),ki 153 510 (.str (Str.ofString "™") 511),ki 154 513 (.str (Str.ofString "š") 514),ki 155 516 (.str (Str.ofString "›") 517),ki 156 519 (.str (Str.ofString "œ") 520),ki 157 522 (.str (Str.ofString "") 523),ki 158 525 (.str (Str.ofString "ž") 526),ki 159 528 (.str (Str.ofString "Ÿ") 529)] 34,#[]⟩),
 (235,⟨.type "dict",none,.dict #[ke P "_data" 832 (.ref 43),ke P "_keys" 834 (.ref 243),ke P "_cachestr" 837 (.str (Str.ofString "") 835),ke P "_cachepoints" 842 (.ref 246)] 4,#[]⟩),
 (237,⟨.type "frame",none,.dict #[ke P "self" 829 (.ref 236),ke P "data" 830 (.ref 43)] 2,#[]⟩),
 (236,⟨.ref 230,some 235,.plain,#[]⟩)]
noncomputable def Uj (P:Params):Frag:=kU.map Jm++QV P
noncomputable def Cv:List Nat:=kU.map (·.1)++[3,72,73,165,166,229,230,761,762,1,2,22,27,32,37,49,134,149,171,243,246,254,276,48,43,46,235,237,236]
noncomputable def kW:List Nat:=List.range 900
noncomputable def s9 (e:DictEntry):Bool:=match e.key with
 |.str _ _=>true
 |_=>false
noncomputable def AQ:V→Value
 |.blt i=>.builtin i
 |.typ n=>.type n
 |_=>.none
noncomputable def MT (K:Frag):Bool×List (Option Value):=match K.lookup builtinsNs with
 |some ⟨_,_,.dict en _,_⟩=>(en.toList.all s9,lV.blts.map fun x=>lC (st x.1) en.toList)
 |_=>(false,[])
noncomputable def WP:List Value→Option Str
 |_::.str n _::_=>some n
 |_=>none
noncomputable def qV (K:Frag)(c:Nat):Option Str:=match K.lookup c with
 |some ⟨_,_,.fields vs,_⟩=>WP vs.toList
 |_=>none
noncomputable def Uk (K:Frag):List (Option Str):=kU.map fun x=>qV K (x.1-1)
noncomputable abbrev WQ:=Frag×List (Option Str)×(Bool×List (Option Value))×(Bool×Bool)
noncomputable def yG (K K2:Frag)(t n:Nat):WQ:=(K,Uk K2,MT K2,(Nat.ble 1 t,(K2.all fun x=> !iC x.1 x.2)&&Nat.ble n 900))
noncomputable def qW (w:World):WQ:=(Uj w.params,kU.map fun x=>some (lI x.2.1 iU.main.body).2,(true,lV.blts.map fun x=>some (AQ x.2)),(true,true))
end
section
noncomputable def hI:List Str:=[Str.ofString "_wall",Str.ofString "EOF",Str.ofString "spaceCharacters",Str.ofString "asciiLetters",Str.ofString "digits",Str.ofString "hexDigits",Str.ofString "asciiLower",Str.ofString "entities",Str.ofString "replacementCharacters",Str.ofString "tokenTypes",Str.ofString "tagTokenTypes",Str.ofString "Text",Str.ofString "_is_invalid",Str.ofString "HTMLUnicodeInputStream",Str.ofString "bisect_left",Str.ofString "Trie",Str.ofString "entitiesTrie",Str.ofString "HTMLTokenizer",Str.ofString "_law_TEXTS",Str.ofString "_law_NAMES",Str.ofString "_law_VALUES",Str.ofString "_law_NOTES",Str.ofString "_law_HALVES",Str.ofString "_law_OTHERS",Str.ofString "_law_start",Str.ofString "_law_after"]
noncomputable def Jn:Program:=view iU [31]
theorem QW (w:World):(Ct iU (w.withFollow "special-get-raises" false) 20000).map (fun T=>(yF Jn hI (importedModules iU.main.body) (fun _=>true) true T.abs,yG (sZ Cv T) (sZ kW T) T.toks T.n))=some (openGood Jn hI,qW (w.withFollow "special-get-raises" false)):=by kernel_rfl
theorem QX (w:World):(Ct iU (w.withFollow "special-get-raises" true) 20000).map (fun T=>(yF Jn hI (importedModules iU.main.body) (fun _=>true) true T.abs,yG (sZ Cv T) (sZ kW T) T.toks T.n))=some (openGood Jn hI,qW (w.withFollow "special-get-raises" true)):=by kernel_rfl
theorem MU:LeftO iU Jn hI (fun _=>true) (fun s=>yG (kT Cv s) (kT kW s) s.toks s.heap.objs.size) qW 20000:=Hu fun w b=>match b with
 |false=>QW w
 |true=>QX w
end
section
noncomputable abbrev Tm:OpenLaw:=PySem.Challenge.rw_te0044_01
noncomputable abbrev pp:Program:=(Fast.tw2368527892694137696 PySem.Challenge.rw_te0044_01).prog
theorem XA:Fast.tw11788848310118352699 pp.main=true:=by kernel_rfl
theorem XB:Fast.tw12862048085361865435 (Fast.tw9807087744658564304 pp.main.body) pp.main.body=true:=by kernel_rfl
theorem XC:Fast.tw8377067652309620493 pp=true:=by kernel_rfl
theorem XD:(R.allR (Fast.tw18344453789297297638 pp) fun n=> !Fast.tw3471404346716756564 Fast.tw14412699480532031325 n)=true:=by kernel_rfl
theorem Ul:R.filterR (Fast.tw13343964577679436407 pp pp.main.body) [{cps:={toList:=[118,97,114,115]}},{cps:={toList:=[100,105,114]}},{cps:={toList:=[108,111,99,97,108,115]}}]=[]:=by kernel_rfl
theorem XF:(Fast.tw17119622794617984870 pp pp.main.body fun x n=>Fast.tw17868728402115742887 n)=true:=by kernel_rfl
noncomputable abbrev Um (b:List Str):Look:={strict:= !R.allR (Fast.tw5923862056798008813 pp.main.body) (Fast.tw3471404346716756564 Fast.tw17691160309236699985),foot:=none,bare:=b}
theorem XG:Fast.tw8326940854005059898 (Um []) pp.main.body=true:=by kernel_rfl
theorem Un:Fast.tw8326940854005059898 (Um (R.filterR (Fast.tw13343964577679436407 pp pp.main.body) [{cps:={toList:=[118,97,114,115]}},{cps:={toList:=[100,105,114]}},{cps:={toList:=[108,111,99,97,108,115]}}])) pp.main.body=true:=(congrArg (fun b=>Fast.tw8326940854005059898 (Um b) pp.main.body) Ul).trans XG
theorem XH:Fast.tw12908688711261696721 pp=true:=by
 delta Fast.tw12908688711261696721
 exact look_both (look_both (look_both (look_both (look_both XA (by rw[XB];exact Bool.or_true _)) XC) XD) Un) XF
theorem Uo:Fast.tw2436336058641802641 (Fast.tw2368527892694137696 PySem.Challenge.rw_te0044_01)=true:=by
 delta Fast.tw2436336058641802641
 repeat' with_reducible refine look_both ?_ ?_
 ·exact XH
 all_goals kernel_rfl
theorem Uq:Fast.tw17960256430627541270 (Fast.tw2368527892694137696 PySem.Challenge.rw_te0044_01)=true:=by
 delta Fast.tw17960256430627541270
 repeat' with_reducible refine look_both ?_ ?_
 ·exact Uo
 all_goals as_aux_lemma=>kernel_rfl
theorem MW:PySem.Challenge.rw_te0044_01.wellSaid=true:=by
 have e: @OpenLaw.wellSaid=PySem.W.Fast.tw9446332074065402090:=PySem.W.Fast.te9446332074065402090
 rw[e]
 delta PySem.W.Fast.tw9446332074065402090
 repeat' with_reducible refine look_both ?_ ?_
 ·exact Uq
 all_goals as_aux_lemma=>kernel_rfl
end
section
open PySem.Builtin.Str PySem.StrLaws
noncomputable def dJ (p:Int×Int)(s:List Nat):Int×Int:=s.foldl (fun p c=>if c=10 then(p.1+1,0)else(p.1,p.2+1)) p
theorem fT (p:Int×Int)(a b:List Nat):dJ p (a++b)=dJ (dJ p a) b:=by unfold dJ;rw[List.foldl_append]
theorem Cw (p:Int×Int)(a:List Nat)(c:Nat):dJ p (a++[c])=if c=10 then((dJ p a).1+1,0)else((dJ p a).1,(dJ p a).2+1):=by rw[fT];rfl
noncomputable def nl (s:List Nat)(i:Nat):Bool:=s[i]? ==some 10
theorem Cy (s:List Nat)(i:Nat):subAt (st s) (st [10]) i=nl s i:=by
 rw[subAt_eq,cV,cV]
 unfold nl
 have h:(st [10]).length=1:=rfl
 rw[h]
 cases e:s[i]? with
 |none=>rw[List.drop_of_length_le (List.getElem?_eq_none_iff.mp e)];rfl
 |some c=>
  obtain⟨hl,e⟩:=List.getElem?_eq_some_iff.mp e
  rw[List.drop_eq_getElem_cons hl,e,List.take_succ_cons,List.take_zero,Bool.eq_iff_iff]
  simp
theorem v7 (s:List Nat){off:Nat}(ho:off≤s.length):∀ (n k:Nat) (x:Array Nat×Nat),x.2≤k→x.1.size≤k→k+n≤off+1→
  (forIn (List.range' k n) x (occBody (st s) (st [10]) off (s.length+1))).run.1.size=x.1.size+((List.range' k n).filter fun i=>decide (i<off)&&nl s i).length
 |0,k,x,_,_,_=>by simp
 |n+1,k,x,h1,h2,h3=>by
  rw[List.range'_succ,List.forIn_cons,List.filter_cons]
  unfold occBody
  rw[Cy]
  have h:(st [10]).length=1:=rfl
  rw[h]
  by_cases c:k<off∧nl s k=true
  ·rw[if_pos ⟨⟨⟨by lia,h1⟩,by lia⟩,c.2⟩,if_pos (by simp[c.1,c.2])]
   have:=v7 s ho n (k+1) (x.1.push k,k+1) (Nat.le_refl _) (by simp;lia) (by lia)
   show(forIn (List.range' (k+1) n) (x.1.push k,k+1) (occBody (st s) (st [10]) off (s.length+1))).run.1.size=_
   rw[this]
   simp
   lia
  ·rw[if_neg (fun h=>c ⟨by lia,h.2⟩),if_neg (by simp only[Bool.and_eq_true,decide_eq_true_eq];exact c)]
   exact v7 s ho n (k+1) x (by lia) (by lia) (by lia)
theorem qX (s:List Nat)(off:Nat):∀ (n k:Nat) (x:Option Nat),(forIn (List.range' k n) x (lastBody (st s) (st [10]) off)).run=(((List.range' k n).filter fun i=>decide (i<off)&&nl s i).getLast?.or x)
 |0,k,x=>by simp
 |n+1,k,x=>by
  rw[List.range'_succ,List.forIn_cons,List.filter_cons]
  unfold lastBody
  rw[Cy]
  have h:(st [10]).length=1:=rfl
  rw[h]
  by_cases c:k<off∧nl s k=true
  ·rw[if_pos ⟨by lia,c.2⟩,if_pos (by simp[c.1,c.2])]
   show(forIn (List.range' (k+1) n) (some k) (lastBody (st s) (st [10]) off)).run=_
   rw[qX s off n (k+1),List.getLast?_cons]
   cases(List.filter (fun i=>decide (i<off)&&nl s i) (List.range' (k+1) n)).getLast? <;>rfl
  ·rw[if_neg (fun h=>c ⟨by lia,h.2⟩),if_neg (by simp only[Bool.and_eq_true,decide_eq_true_eq];exact c)]
   exact qX s off n (k+1) x
noncomputable def uI (s:List Nat)(off:Nat):List Nat:=(List.range off).filter (nl s)
theorem Cz (s:List Nat)(off:Nat):(List.range' 0 (off+1)).filter (fun i=>decide (i<off)&&nl s i)=uI s off:=by
 rw[← List.range_eq_range',List.range_succ,List.filter_append]
 unfold uI
 have h:List.filter (fun i=>decide (i<off)&&nl s i) [off]=[]:=by simp
 rw[h,List.append_nil]
 exact List.filter_congr fun i hi=>by simp[List.mem_range.mp hi]
theorem qY (s:List Nat){k:Nat}(h:k≤s.length):fromIndex (st s).length (k:Int)=k:=by
 unfold fromIndex
 rw[d4]
 split <;>lia
theorem Hv {s:List Nat}{off:Nat}(ho:off≤s.length):BS s [10] 0 (off:Int)=(uI s off).length:=by
 unfold BS
 have z:=qY s (k:=0) (Nat.zero_le _)
 have z:fromIndex (st s).length 0=0:=z
 rw[z,qY s ho,occ_eq,Array.length_toList,d4,Nat.min_eq_left ho]
 have:=v7 s ho (off+1) 0 (#[],0) (Nat.le_refl _) (Nat.le_refl _) (by lia)
 show(((forIn (List.range' 0 (off+1)) (#[],0) (occBody (st s) (st [10]) off (s.length+1))).run.1.size:Nat):Int)=_
 rw[this,Cz]
 try simp
theorem Hw {s:List Nat}{off:Nat}(ho:off≤s.length):oC s [10] 0 (off:Int)=match(uI s off).getLast? with|some k=>(k:Int)|none=> -1:=by
 unfold oC
 have z:=qY s (k:=0) (Nat.zero_le _)
 have z:fromIndex (st s).length 0=0:=z
 rw[z,qY s ho,last_eq,d4,Nat.min_eq_left ho]
 have e:(forIn (List.range' 0 (off+1-0)) none (lastBody (st s) (st [10]) off)).run=(uI s off).getLast?:=by
  rw[Nat.sub_zero,qX,Cz];try simp
 rw[e]
 try (cases(uI s off).getLast? <;>rfl)
theorem DA (s:List Nat)(off:Nat):uI s (off+1)=uI s off++if nl s off then [off]else []:=by
 unfold uI
 rw[List.range_succ,List.filter_append,List.filter_cons]
 split <;>rfl
theorem yH (p:Int×Int)(s:List Nat):∀ off,off≤s.length→dJ p (s.take off)=(p.1+(uI s off).length,match(uI s off).getLast? with|some k=>(off:Int) - ((k:Int)+1)|none=>p.2+off)
 |0,_=>by simp[dJ,uI]
 |off+1,h=>by
  have hl:off<s.length:=h
  have e:s.take (off+1)=s.take off++[s[off]]:=by rw[List.take_add_one,List.getElem?_eq_getElem hl];rfl
  rw[e,Cw,yH p s off (by lia),DA]
  have hn:nl s off=(s[off]==10):=by unfold nl;rw[List.getElem?_eq_getElem hl];rfl
  rw[hn]
  by_cases c:s[off]=10
  ·rw[if_pos c,if_pos (by simp[c])]
   rw[List.getLast?_concat,List.length_append]
   simp only[List.length_cons,List.length_nil]
   refine Prod.ext ?_ ?_
   ·show p.1+((uI s off).length:Int)+1=p.1+(((uI s off).length+(0+1):Nat):Int)
    lia
   ·show(0:Int)=((off+1:Nat):Int) - ((off:Int)+1)
    lia
  ·rw[if_neg c,if_neg (by simp[c]),List.append_nil]
   refine Prod.ext rfl ?_
   cases(uI s off).getLast? with
   |none=>
    show p.2+(off:Int)+1=p.2+((off+1:Nat):Int)
    lia
   |some k=>
    show(off:Int) - ((k:Int)+1)+1=((off+1:Nat):Int) - ((k:Int)+1)
    lia
theorem Hx {s:List Nat}{off:Nat}(ho:off≤s.length)(p:Int×Int):dJ p (s.take off)=(p.1+BS s [10] 0 off,if oC s [10] 0 off= -1 then p.2+off else(off:Int) - (oC s [10] 0 off+1)):=by
 rw[yH p s off ho,Hv ho,Hw ho]
 cases(uI s off).getLast? with
 |none=>simp
 |some k=>
  have:¬ (k:Int)= -1:=by lia
  dsimp only
  rw[if_neg this]
end
section
noncomputable def aX:Nm:=[116,101,120,116]
noncomputable def dR:Nm:=[112,108,97,99,101]
noncomputable def aI:Nm:=[105,110,118,97,108,105,100,45,99,111,100,101,112,111,105,110,116]
noncomputable def cZ:Nm:=Xh
noncomputable def m9:Nm:=[110,101,119,76,105,110,101,115]
noncomputable def jQ:Nm:=[100,97,116,97,83,116,114,101,97,109]
noncomputable def yI:Nm:=[99,104,117,110,107]
noncomputable def lJ:Nm:=[99,104,117,110,107,83,105,122,101]
noncomputable def iF:Nm:=[99,104,117,110,107,79,102,102,115,101,116]
noncomputable def tA:Nm:=[101,114,114,111,114,115]
noncomputable def gQ:Nm:=Xr
noncomputable def iG:Nm:=[112,114,101,118,78,117,109,67,111,108,115]
noncomputable def dX:Nm:=Xj
noncomputable def d5:Nm:=Xv
noncomputable def dF:Nm:=[100,97,116,97]
noncomputable def Fg:Nm:=[99]
structure Stm where
 text:List Nat
 place:Nat
 chunk:List Nat
 off:Nat
 buf:Option Nat
 ln:Int
 cl:Int
 er:Nat
noncomputable def QY:Option Nat→D
 |none=>.non
 |some c=>.str [c]
noncomputable def XL (text:List Nat)(p:Int):List O:=[.ins 73 1,.ns [(aX,.dat (.str text)),(dR,.dat (.int p))]]
noncomputable def qZ (n:Nat):List D:=List.replicate n (.str aI)
noncomputable def strE (r:Stm)(a b e:Nat):O:=.ns [(cZ,.mth 148 a),(m9,.dat (.lst [.int 0])),(jQ,.ref b),(yI,.dat (.str r.chunk)),(lJ,.dat (.int r.chunk.length)),(iF,.dat (.int r.off)),
  (tA,.ref e),(gQ,.dat (.int r.ln)),(iG,.dat (.int r.cl)),(dX,.dat (QY r.buf))]
noncomputable def SL (r:Stm):List O:=[.ins 166 1,strE r 0 2 4,.ins 73 3,.ns [(aX,.dat (.str r.text)),(dR,.dat (.int r.place))],.dls (qZ r.er)]
theorem QZ {a b:Bool}(h:a=true)(k:b=true):mW a b=true:=(congrArg (fun x=>mW x b) h).trans k
theorem Qa {t b:Bool}(h:b=t):Al t b=true:=(mL t b).symm.trans (h▸beq_self_eq_true b)
theorem DB {b:Bool}(h:b=false):(!b)=true:=h▸rfl
noncomputable def cg:List (Bool×Bool)→Bool
 | []=>true
 |p::r=>mW (Al p.1 p.2) (cg r)
theorem aE:cg []=true:=rfl
theorem aA {t b:Bool}{r:List (Bool×Bool)}(h:b=t)(k:cg r=true):cg ((t,b)::r)=true:=QZ (Qa h) k
theorem li {n:Nat}(h:n≤20000):Nat.ble n lim=true:=Nat.ble_eq_true_of_le (Nat.le_trans h (by decide))
noncomputable def eL (c:Nat):Bool:=Nat.beq c 1||Nat.beq c 64976
noncomputable def v8 (c:Nat):Bool:=Nat.beq c 10||Nat.beq c 13||(Nat.ble 32 c&&Nat.ble c 126)||Nat.beq c 233||eL c
noncomputable def nA (c:Nat):Prop:=v8 c=true
noncomputable def bT (d:Nm):Nat:=(d.filter eL).length
theorem jR (a b:Nm):bT (a++b)=bT a+bT b:=by unfold bT;rw[List.filter_append,List.length_append]
theorem q0 (a:Nm):bT a≤a.length:=List.length_filter_le _ _
noncomputable def XI (c:Int):List (Bool×Bool):=[(false,!i6 c 55296),(false,sA (.int (Int.fmod c 65536)) [.int 65534,.int 65535]),(false,!i6 c 64976),(false,!i6 c 127),(false,!i6 31 c),(true,!i6 c 14),(false,kC c 11),(false,!i6 8 c),(true,!i6 c 1)]
theorem MX:∀ c<127,32≤c→cg (XI (Int.ofNat c))=true:=by decide+kernel
theorem kX {c:Nat}(h:nA c):c=10∨c=13∨(32≤c∧c≤126)∨c=233∨c=1∨c=64976:=
 have e:∀ {k},Nat.beq c k=true→c=k:=Nat.eq_of_beq_eq_true
 (Bool.or_eq_true_iff.mp h).elim (fun h=>(Bool.or_eq_true_iff.mp h).elim (fun h=>(Bool.or_eq_true_iff.mp h).elim (fun h=>(Bool.or_eq_true_iff.mp h).elim (fun h=>.inl (e h)) fun h=>.inr (.inl (e h)))
  fun h=>.inr (.inr (.inl ((Bool.and_eq_true_iff.mp h).imp Nat.le_of_ble_eq_true Nat.le_of_ble_eq_true)))) fun h=>.inr (.inr (.inr (.inl (e h))))) fun h=>.inr (.inr (.inr (.inr ((Bool.or_eq_true_iff.mp h).imp e e))))
section
variable (z:bS)
noncomputable abbrev Hy (z:bS)(r:Stm)(off:Nat):Prop:=CallOk z.c 1 119 [.ref 0,.dat (.int off)] (SL r) (.dat (.tup [.int (dJ (r.ln,r.cl) (r.chunk.take off)).1,.int (dJ (r.ln,r.cl) (r.chunk.take off)).2])) (SL r)
theorem Jo {r:Stm}{off:Nat}(ho:off≤r.chunk.length):Hy z r off:=by
 unfold Hy
 rw[Hx ho]
 cases h:zT (D.int (oC r.chunk [10] 0 off)) (D.int (-1))with
 |true=>
  rw[if_pos (by have:=(bE (oC r.chunk [10] 0 off) (-1)).trans h;exact eq_of_beq this)]
  exact z.use (hs:=[.tst 56011028 true]) (o:=.fz [] []) (aA h aE) trivial (by kernel_rfl)
 |false=>
  rw[if_neg (by have:=(bE (oC r.chunk [10] 0 off) (-1)).trans h;exact ne_of_beq_false this)]
  exact z.use (hs:=[.tst 56011028 false]) (o:=.fz [] []) (aA h aE) trivial (by kernel_rfl)
noncomputable def Stm.pos (r:Stm):Int×Int:=dJ (r.ln,r.cl) (r.chunk.take r.off)
theorem nB {r:Stm}(ho:r.off≤r.chunk.length):CallOk z.c 2 126 [.ref 0] (SL r) (.dat (.tup [.int (r.pos.1+1),.int r.pos.2])) (SL r):=
 z.use (hs:=[.cal 119 1 [0,1,2,3,4] (.dat (.tup [.int r.pos.1,.int r.pos.2])) (SL r)]) (o:=.fz [] []) (g:=true) (ob:=Hy z r r.off∧True) rfl ⟨Jo z ho,trivial⟩ (by kernel_rfl)
theorem AR {c:Nat}(hc:nA c):CallOk z.c 1 84 [.dat (.int c)] [] (.dat (.boo (eL c))) []:=by
 rcases kX hc with rfl|rfl|h|rfl|rfl|rfl
 ·exact z.use (hs:=[]) (o:=.fz [] []) rfl trivial (by kernel_rfl)
 ·exact z.use (hs:=[]) (o:=.fz [] []) rfl trivial (by kernel_rfl)
 ·rw[show eL c=false from Bool.or_eq_false_iff.mpr ⟨(zS _ _).trans (decide_eq_false (by lia)),(zS _ _).trans (decide_eq_false (by lia))⟩]
  exact z.use (hs:=[.tst 28011012 true,.tst 28011030 false,.tst 28034049 false,.tst 28053055 true,.tst 28053074 false,.tst 28079082 false,.tst 28108113 false,.tst 28141176 false,.tst 28182187 false]) (o:=.fz [] []) (MX c (Nat.lt_succ_of_le h.2) h.1) trivial (by kernel_rfl)
 ·exact z.use (hs:=[]) (o:=.fz [] []) rfl trivial (by kernel_rfl)
 ·exact z.use (hs:=[]) (o:=.fz [] []) rfl trivial (by kernel_rfl)
 ·exact z.use (hs:=[]) (o:=.fz [] []) rfl trivial (by kernel_rfl)
noncomputable def DC:Fn:=kS iU [15,8] []
noncomputable def pJ:ForI:=Hf (fG DC.body 0)
noncomputable def Stm.more (r:Stm)(k:Nat):Stm:=⟨r.text,r.place,r.chunk,r.off,r.buf,r.ln,r.cl,r.er+k⟩
noncomputable def EL (r:Stm)(d:Nm)(eo:List (Nm×V)):List O:=SL r++[.fr ([(d5,.ref 0),(dF,.dat (.str d))]++eo)]
noncomputable abbrev EF:Fx:=⟨5,[],true⟩
theorem DD (n:Nat):qZ n++[.str aI]=qZ (n+1):=List.replicate_succ'.symm
theorem q4 (n:Nat):(qZ n).length=n:=List.length_replicate
theorem MY {r:Stm}{d:Nm}{c:Nat}(hc:nA c)(hl:r.er≤20000):RX z.c DC.names 1 EF (EL r d [(Fg,.dat (.str [c]))]) pJ.b .next (EL (r.more (bif eL c then 1 else 0)) d [(Fg,.dat (.str [c]))]):=by
 have h:=AR z hc
 generalize eL c=b at *
 cases b with
 |true=>
  unfold Stm.more EL SL
  rw[show(bif true then 1 else 0:Nat)=1 from rfl,← DD]
  exact z.useX (hs:=[.cal 84 1 [] (.dat (.boo true)) []]) (g:=cg [(true,Nat.ble (qZ r.er).length lim)]) (aA (li (by rw[q4];exact hl)) aE) (an h trivial) (by kernel_rfl)
 |false=>exact z.useX (hs:=[.cal 84 1 [] (.dat (.boo false)) []]) (g:=true) rfl (an h trivial) (by kernel_rfl)
theorem DE {d:Nm}:∀ (t:Nm) (k:Nat) (r:Stm) (eo:List (Nm×V)),d.drop k=t→(∀ c∈t,nA c)→r.er+bT t≤20000→(eo=[]∨∃ v,eo=[(Fg,v)])→∃ eo',Bn z.c DC.names 1 EF pJ.g pJ.b 6 (.dat (.str d)) (t.length+1) k (EL r d eo) .next (EL (r.more (bT t)) d eo')
 | [],k,r,eo,h,_,_,_=>⟨eo,.stop rfl (by rw[iD,List.getElem?_map,List.getElem?_eq_none (List.drop_eq_nil_iff.mp h)];rfl)⟩
 |c::t,k,r,eo,h,hd,hl,ho=>by
  have hk:d[k]? =some c:=by have:=congrArg (·[0]?) h;simpa using this
  have ht:d.drop (k+1)=t:=by rw[← List.drop_drop,h];rfl
  have e1:bT (c::t)=(bif eL c then 1 else 0)+bT t:=by
   unfold bT
   rw[List.filter_cons]
   cases eL c with
   |true=>rw[if_pos rfl,List.length_cons];exact Nat.add_comm ..
   |false=>rw[if_neg Bool.false_ne_true];exact(Nat.zero_add _).symm
  rw[e1]at hl
  obtain⟨eo',q⟩:=DE t (k+1) (r.more (bif eL c then 1 else 0)) [(Fg,.dat (.str [c]))] ht (fun x m=>hd x (.tail _ m)) (by show r.er+_+_≤_;lia) (.inr ⟨_,rfl⟩)
  have q':(r.more (bif eL c then 1 else 0)).more (bT t)=r.more (bT (c::t)):=by rw[e1];unfold Stm.more;rw[Nat.add_assoc]
  rw[q']at q
  have g:(iD d)[k]? =some (.dat (.str [c])):=by rw[iD,List.getElem?_map,hk];rfl
  have e:eH EF pJ.y.cps.toList (.dat (.str [c])) (EL r d eo)=some (EL r d [(Fg,.dat (.str [c]))]):=by
   rcases ho with rfl|⟨v,rfl⟩<;>kernel_rfl
  exact⟨eo',.turn rfl g (b0 (by kernel_rfl) e) (MY z (hd c (.head _)) (by lia)) rfl .id q⟩
theorem MZ {r:Stm}{d:Nm}(hd:∀ c∈d,nA c)(hl:r.er+bT d≤20000):CallOk z.c 2 148 [.ref 0,.dat (.str d)] (SL r) (.dat .non) (SL (r.more (bT d))):=by
 obtain⟨eo',q⟩:=DE z (d:=d) d 0 r [] rfl hd hl (.inl rfl)
 have h1:RE z.c DC.names 1 EF (EL r d []) pJ.i (.dat (.str d)) (EL r d []):=z.useE (hs:=[]) rfl trivial (by kernel_rfl)
 exact z.use (hs:=[.stm 102 .next (EL (r.more (bT d)) d eo')]) (o:=.fz [] []) (g:=true) (ob:=RS z.c DC.names 1 EF (EL r d []) pJ.s .next (EL (r.more (bT d)) d eo')∧True) rfl ⟨kP (fun _ _=>rfl) h1 rfl rfl q,trivial⟩ (by kernel_rfl)
theorem DF {α:Type}(xs:List α)(p k:Nat)(h1:p≤xs.length):eR xs (some (p:Int)) (some ((p:Int)+(k:Int)))=(xs.drop p).take k:=by
 show(xs.drop (mn p xs.length)).take (mn (p+k) xs.length-mn p xs.length)=_
 rw[lF,lF,Nat.min_eq_left h1]
 rcases Nat.le_total (p+k) xs.length with h|h
 ·rw[Nat.min_eq_left h,Nat.add_sub_cancel_left]
 ·rw[Nat.min_eq_right h,List.take_of_length_le (Nat.le_of_eq List.length_drop),List.take_of_length_le (by rw[List.length_drop];lia)]
noncomputable abbrev pK (z:bS)(t:Nm)(p k:Nat)(d:Nm):Prop:=CallOk z.c 1 70 [.ref 0,.dat (.int k)] (XL t p) (.dat (.str d)) (XL t (p+d.length))
theorem DG {text:Nm}{p k:Nat}(h1:p≤text.length)(h2:text.length≤10240):pK z text p k ((text.drop p).take k):=by
 have e:=DF text p k h1
 have hl:((text.drop p).take k).length≤20000:=by rw[List.length_take,List.length_drop];lia
 unfold pK
 generalize (text.drop p).take k=d at *
 exact z.use (hs:=[.val 24015054 (.dat (.str d))]) (o:=.fz [] [])
  (g:=cg [(true,Nat.ble d.length lim),(true,Nat.ble text.length lim)])
  (ob:=V.dat (.str (eR text (some (p:Int)) (some ((p:Int)+k))))=V.dat (.str d)∧True)
  (aA (li hl) (aA (li (Nat.le_trans h2 (by decide))) aE)) ⟨congrArg (fun x=>V.dat (.str x)) e,trivial⟩ (by kernel_rfl)
end
end
section
noncomputable def aY (d:Nm):Nm:=fI [13] [10] 0 (fI [13,10] [10] 0 d)
theorem DH {d:Nm}(h:d.length≤20000):(fI [13,10] [10] 0 d).length≤20000:=Nat.le_trans (eT (by simp) (by simp) _ _ (Nat.le_refl _)) h
theorem q5 {d:Nm}(h:d.length≤20000):(aY d).length≤20000:=Nat.le_trans (eT (by simp) (by simp) _ _ (Nat.le_refl _)) (DH h)
noncomputable def Stm.rest (r:Stm):Nm:=r.buf.toList++r.text.drop r.place
structure Stm.Ok (r:Stm):Prop where
 pl:r.place≤r.text.length
 len:r.text.length≤10240
 sg:∀ c∈r.text,nA c
 buf:r.buf=none∨r.buf=some 13
 off:r.off≤r.chunk.length
 chk:r.chunk.length≤20000
 er:r.er+bT r.rest≤10240
noncomputable abbrev Stm.mt (r:Stm)(k:Nat)(b:Option Nat):Stm:=⟨r.text,r.place+k,[],0,b,(dJ (r.ln,r.cl) r.chunk).1,(dJ (r.ln,r.cl) r.chunk).2,r.er⟩
noncomputable abbrev Stm.rd (r:Stm)(k:Nat)(b:Option Nat)(d:Nm):Stm:=⟨r.text,r.place+k,aY d,0,b,(dJ (r.ln,r.cl) r.chunk).1,(dJ (r.ln,r.cl) r.chunk).2,r.er+bT d⟩
noncomputable def Sz (as:List V)(k:Nat):Prop:=(as=[]∧k=10240)∨as=[.dat (.int k)]
section
variable {z:bS}{t:Nm}{p o e:Nat}{ck:Nm}{i j:Int}{b:Option Nat}{d:Nm}{as:List V}{k:Nat}
noncomputable abbrev r0 (t:Nm)(p:Nat)(ck:Nm)(o:Nat)(b:Option Nat)(i j:Int)(e:Nat):Stm:=⟨t,p,ck,o,b,i,j,e⟩
noncomputable abbrev CP (z:bS)(r:Stm):Prop:=CallOk z.c 1 119 [.ref 0,.dat (.int r.chunk.length)] (SL r) (.dat (.tup [.int (dJ (r.ln,r.cl) r.chunk).1,.int (dJ (r.ln,r.cl) r.chunk).2])) (SL r)
noncomputable abbrev CE (z:bS)(r:Stm)(d:Nm):Prop:=CallOk z.c 2 148 [.ref 0,.dat (.str d)] (SL r) (.dat .non) (SL (r.more (bT d)))
noncomputable abbrev CH (z:bS)(r:Stm)(as:List V)(k:Bool)(r':Stm):Prop:=CallOk z.c 3 141 (.ref 0::as) (SL r) (.dat (.boo k)) (SL r')
noncomputable abbrev lO (r:Stm):Hi:=.cal 119 1 [0,1,2,3,4] (.dat (.tup [.int (dJ (r.ln,r.cl) r.chunk).1,.int (dJ (r.ln,r.cl) r.chunk).2])) (SL r)
noncomputable abbrev Am (t:Nm)(p:Nat)(d:Nm):Hi:=.cal 70 1 [2,3] (.dat (.str d)) (XL t (p+d.length))
noncomputable abbrev nE (r:Stm)(d:Nm):Hi:=.cal 148 2 [0,1,2,3,4] (.dat .non) (SL (r.more (bT d)))
noncomputable abbrev gM (d:Nm):List (Bool×Bool):=[(true,Nat.ble (aY d).length lim),(true,Nat.ble (fI [13,10] [10] 0 d).length lim),(true,Nat.ble d.length lim)]
theorem nH {d:Nm}{r:List (Bool×Bool)}(h:d.length≤20000)(k:cg r=true):cg (gM d++r)=true:=aA (li (q5 h)) (aA (li (DH h)) (aA (li h) k))
theorem Ma (h1:CP z (r0 t p ck o none i j e))(h2:pK z t p 10240 []):CH z (r0 t p ck o none i j e) [] false ((r0 t p ck o none i j e).mt 0 none):=
 z.use (hs:=[lO (r0 t p ck o none i j e),Am t p []]) (o:=.fz [] []) (g:=true) rfl (an h2 (an h1 trivial)) (by kernel_rfl)
theorem Mc {c:Nat}(h1:CP z (r0 t p ck o none i j e))(h2:pK z t p 10240 [c])(h3:CE z ((r0 t p ck o none i j e).mt 1 none) [c]):CH z (r0 t p ck o none i j e) [] true ((r0 t p ck o none i j e).rd 1 none [c]):=
 z.use (hs:=[lO (r0 t p ck o none i j e),Am t p [c],nE ((r0 t p ck o none i j e).mt 1 none) [c]]) (o:=.fz [] []) (g:=cg (gM [c])) (nH (by simp) aE) (an h3 (an h2 (an h1 trivial))) (by kernel_rfl)
theorem Md (h1:CP z (r0 t p ck o (some 13) i j e))(h2:pK z t p 10240 [])(h3:CE z ((r0 t p ck o (some 13) i j e).mt 0 none) [13]):CH z (r0 t p ck o (some 13) i j e) [] true ((r0 t p ck o (some 13) i j e).rd 0 none [13]):=
 z.use (hs:=[lO (r0 t p ck o (some 13) i j e),Am t p [],nE ((r0 t p ck o (some 13) i j e).mt 0 none) [13]]) (o:=.fz [] []) (g:=cg (gM [13])) rfl (an h3 (an h2 (an h1 trivial))) (by kernel_rfl)
theorem bN {c:Cx}{n:Nat}{x:Nm}{k:Int}{a:Nat}(e:uR x k=some a)(g:c9 k=true)(hp:List O):cG c n hp getItem c.VT (.dat (.str x)) (.dat (.int k)) (.dat (.str [a])) hp:=(BH c n hp x k a e).ok g
theorem jT {α:Type}(xs:List α)(x:α):uR (xs++[x]) (-1)=some x:=by
 show(oA (.negSucc 0) (xs++[x]).length).bind _=_
 have:oA (.negSucc 0) (xs++[x]).length=some xs.length:=by
  show(match Nat.ble 1 (xs++[x]).length with|true=>_|false=>_)=_
  rw[List.length_append]
  rfl
 rw[this]
 exact List.getElem?_concat_length
theorem tB {α:Type}(xs:List α)(x:α):eR (xs++[x]) none (some (-1))=xs:=by
 show(xs++[x]).take ((xs++[x]).length-1-0)=xs
 rw[List.length_append]
 exact List.take_left
theorem Jp {l:Nat}(h:nA l)(n13:l≠13):l<55296∨l=64976:=by rcases kX h with h|h|h|h|h|h <;>lia
noncomputable abbrev Ao (z:bS)(x:Nm)(a:Nat):Prop:=∀ hp,cG z.c 2 hp getItem z.c.VT (.dat (.str x)) (.dat (.int (-1))) (.dat (.str [a])) hp
theorem Hz {c l:Nat}{d':Nm}(sz:Sz as k)(e0:c::d'=d)(e1:uR d (-1)=some l)(hl:d.length≤20000)(h2l:1<d.length)(hc:nA l)(n13:l≠13)(h1:CP z (r0 t p ck o none i j e))(h2:pK z t p k d)(h3:CE z ((r0 t p ck o none i j e).mt d.length none) d):CH z (r0 t p ck o none i j e) as true ((r0 t p ck o none i j e).rd d.length none d):=by
 subst e0
 have e13:kC l 13=false:=by rw[← bE];exact beq_eq_false_iff_ne.mpr (by lia)
 rcases Jp hc n13 with q|rfl
 ·have g:=nH hl (aA (t:=false) (b:= !i6 l 55296) (by rw[← cX];exact congrArg (!·) (decide_eq_true (by lia))) (aA e13 (aA (t:=true) (b:=i6 1 (c::d').length) (by rw[← cX];exact decide_eq_true (by lia)) (aA (li hl) (aA (li hl) aE)))))
  rcases sz with⟨rfl,rfl⟩|rfl
  ·exact z.use (hs:=[lO (r0 t p ck o none i j e),Am t p (c::d'),.tst 88011024 true,.sub 89024032 (.dat (.str [l])),.tst 90015026 false,.tst 90030035 false,nE ((r0 t p ck o none i j e).mt (c::d').length none) (c::d')]) (o:=.fz [] [])
    (ob:=CE z ((r0 t p ck o none i j e).mt (c::d').length none) (c::d')∧Ao z (c::d') l∧pK z t p 10240 (c::d')∧CP z (r0 t p ck o none i j e)∧True) g ⟨h3,bN e1 rfl,h2,h1,trivial⟩ (by kernel_rfl)
  ·exact z.use (hs:=[lO (r0 t p ck o none i j e),Am t p (c::d'),.tst 88011024 true,.sub 89024032 (.dat (.str [l])),.tst 90015026 false,.tst 90030035 false,nE ((r0 t p ck o none i j e).mt (c::d').length none) (c::d')]) (o:=.fz [] [])
    (ob:=CE z ((r0 t p ck o none i j e).mt (c::d').length none) (c::d')∧Ao z (c::d') l∧pK z t p k (c::d')∧CP z (r0 t p ck o none i j e)∧True) g ⟨h3,bN e1 rfl,h2,h1,trivial⟩ (by kernel_rfl)
 ·have g:=nH hl (aA (t:=true) (b:=i6 1 (c::d').length) (by rw[← cX];exact decide_eq_true (by lia)) (aA (li hl) (aA (li hl) aE)))
  rcases sz with⟨rfl,rfl⟩|rfl
  ·exact z.use (hs:=[lO (r0 t p ck o none i j e),Am t p (c::d'),.tst 88011024 true,.sub 89024032 (.dat (.str [64976])),nE ((r0 t p ck o none i j e).mt (c::d').length none) (c::d')]) (o:=.fz [] [])
    (ob:=CE z ((r0 t p ck o none i j e).mt (c::d').length none) (c::d')∧Ao z (c::d') 64976∧pK z t p 10240 (c::d')∧CP z (r0 t p ck o none i j e)∧True) g ⟨h3,bN e1 rfl,h2,h1,trivial⟩ (by kernel_rfl)
  ·exact z.use (hs:=[lO (r0 t p ck o none i j e),Am t p (c::d'),.tst 88011024 true,.sub 89024032 (.dat (.str [64976])),nE ((r0 t p ck o none i j e).mt (c::d').length none) (c::d')]) (o:=.fz [] [])
    (ob:=CE z ((r0 t p ck o none i j e).mt (c::d').length none) (c::d')∧Ao z (c::d') 64976∧pK z t p k (c::d')∧CP z (r0 t p ck o none i j e)∧True) g ⟨h3,bN e1 rfl,h2,h1,trivial⟩ (by kernel_rfl)
theorem Qb {c:Nat}{d' init:Nm}(sz:Sz as k)(e0:c::d'=init++[13])(hl:(init++[13]).length≤20000)(h2l:1 < (init++[13]).length)(h1:CP z (r0 t p ck o none i j e))(h2:pK z t p k (init++[13]))(h3:CE z ((r0 t p ck o none i j e).mt (init++[13]).length (some 13)) init):CH z (r0 t p ck o none i j e) as true ((r0 t p ck o none i j e).rd (init++[13]).length (some 13) init):=by
 have e1:=jT init 13
 have e2:=tB init 13
 have hi:init.length≤20000:=by rw[List.length_append]at hl;lia
 rw[← e0]at hl h2l h2 h3 e1 e2 ⊢
 have g:=nH hi (aA (li hl) (aA (t:=true) (b:=i6 1 (c::d').length) (by rw[← cX];exact decide_eq_true (by lia)) (aA (li hl) (aA (li hl) aE))))
 rcases sz with⟨rfl,rfl⟩|rfl
 ·exact z.use (hs:=[lO (r0 t p ck o none i j e),Am t p (c::d'),.tst 88011024 true,.sub 89024032 (.dat (.str [13])),.sub 91042050 (.dat (.str [13])),.val 92023032 (.dat (.str init)),nE ((r0 t p ck o none i j e).mt (c::d').length (some 13)) init]) (o:=.fz [] [])
   (ob:=CE z ((r0 t p ck o none i j e).mt (c::d').length (some 13)) init∧V.dat (.str (eR (c::d') none (some (-1))))=V.dat (.str init)∧Ao z (c::d') 13∧Ao z (c::d') 13∧pK z t p 10240 (c::d')∧CP z (r0 t p ck o none i j e)∧True) g ⟨h3,congrArg (fun x=>V.dat (.str x)) e2,bN e1 rfl,bN e1 rfl,h2,h1,trivial⟩ (by kernel_rfl)
 ·exact z.use (hs:=[lO (r0 t p ck o none i j e),Am t p (c::d'),.tst 88011024 true,.sub 89024032 (.dat (.str [13])),.sub 91042050 (.dat (.str [13])),.val 92023032 (.dat (.str init)),nE ((r0 t p ck o none i j e).mt (c::d').length (some 13)) init]) (o:=.fz [] [])
   (ob:=CE z ((r0 t p ck o none i j e).mt (c::d').length (some 13)) init∧V.dat (.str (eR (c::d') none (some (-1))))=V.dat (.str init)∧Ao z (c::d') 13∧Ao z (c::d') 13∧pK z t p k (c::d')∧CP z (r0 t p ck o none i j e)∧True) g ⟨h3,congrArg (fun x=>V.dat (.str x)) e2,bN e1 rfl,bN e1 rfl,h2,h1,trivial⟩ (by kernel_rfl)
theorem IB {c l:Nat}{d':Nm}(e0:c::d'=d)(e1:uR (13::d) (-1)=some l)(hl:d.length≤10240)(hc:nA l)(n13:l≠13)(h1:CP z (r0 t p ck o (some 13) i j e))(h2:pK z t p 10240 d)(h3:CE z ((r0 t p ck o (some 13) i j e).mt d.length none) (13::d)):CH z (r0 t p ck o (some 13) i j e) [] true ((r0 t p ck o (some 13) i j e).rd d.length none (13::d)):=by
 subst e0
 have e13:kC l 13=false:=by rw[← bE];exact beq_eq_false_iff_ne.mpr (by lia)
 have hl':(13::c::d').length≤20000:=by rw[List.length_cons];lia
 have g0:cg [(true,i6 1 (13::c::d').length),(true,Nat.ble (13::c::d').length lim),(true,Nat.ble ([13].length+(c::d').length) lim)]=true:=aA (by rw[← cX];exact decide_eq_true (by rw[List.length_cons,List.length_cons];lia)) (aA (li hl') (aA (li (by show 1+_≤_;lia)) aE))
 rcases Jp hc n13 with q|rfl
 ·exact z.use (hs:=[lO (r0 t p ck o (some 13) i j e),Am t p (c::d'),.tst 88011024 true,.sub 89024032 (.dat (.str [l])),.tst 90015026 false,.tst 90030035 false,nE ((r0 t p ck o (some 13) i j e).mt (c::d').length none) (13::c::d')]) (o:=.fz [] [])
   (g:=cg (gM (13::c::d')++[(false,!i6 l 55296),(false,kC l 13),(true,i6 1 (13::c::d').length),(true,Nat.ble (13::c::d').length lim),(true,Nat.ble ([13].length+(c::d').length) lim)]))
   (ob:=CE z ((r0 t p ck o (some 13) i j e).mt (c::d').length none) (13::c::d')∧Ao z (13::c::d') l∧pK z t p 10240 (c::d')∧CP z (r0 t p ck o (some 13) i j e)∧True) (nH hl' (aA (by rw[← cX];exact congrArg (!·) (decide_eq_true (by lia))) (aA e13 g0))) ⟨h3,bN e1 rfl,h2,h1,trivial⟩ (by kernel_rfl)
 ·exact z.use (hs:=[lO (r0 t p ck o (some 13) i j e),Am t p (c::d'),.tst 88011024 true,.sub 89024032 (.dat (.str [64976])),nE ((r0 t p ck o (some 13) i j e).mt (c::d').length none) (13::c::d')]) (o:=.fz [] [])
   (g:=cg (gM (13::c::d')++[(true,i6 1 (13::c::d').length),(true,Nat.ble (13::c::d').length lim),(true,Nat.ble ([13].length+(c::d').length) lim)]))
   (ob:=CE z ((r0 t p ck o (some 13) i j e).mt (c::d').length none) (13::c::d')∧Ao z (13::c::d') 64976∧pK z t p 10240 (c::d')∧CP z (r0 t p ck o (some 13) i j e)∧True) (nH hl' g0) ⟨h3,bN e1 rfl,h2,h1,trivial⟩ (by kernel_rfl)
theorem Qc {c:Nat}{d' init:Nm}(e0:c::d'=init++[13])(hl:(init++[13]).length≤10240)(h1:CP z (r0 t p ck o (some 13) i j e))(h2:pK z t p 10240 (init++[13]))(h3:CE z ((r0 t p ck o (some 13) i j e).mt (init++[13]).length (some 13)) (13::init)):CH z (r0 t p ck o (some 13) i j e) [] true ((r0 t p ck o (some 13) i j e).rd (init++[13]).length (some 13) (13::init)):=by
 have e1:=jT (13::init) 13
 have e2:=tB (13::init) 13
 rw[show(13::init)++[13]=13::(init++[13])from rfl]at e1 e2
 have hi:(13::init).length≤20000:=by rw[List.length_append]at hl;rw[List.length_cons];lia
 rw[← e0]at hl h2 h3 e1 e2 ⊢
 have hl':(13::c::d').length≤20000:=by rw[List.length_cons];lia
 exact z.use (hs:=[lO (r0 t p ck o (some 13) i j e),Am t p (c::d'),.tst 88011024 true,.sub 89024032 (.dat (.str [13])),.sub 91042050 (.dat (.str [13])),.val 92023032 (.dat (.str (13::init))),nE ((r0 t p ck o (some 13) i j e).mt (c::d').length (some 13)) (13::init)]) (o:=.fz [] [])
   (g:=cg (gM (13::init)++[(true,Nat.ble (13::c::d').length lim),(true,i6 1 (13::c::d').length),(true,Nat.ble (13::c::d').length lim),(true,Nat.ble ([13].length+(c::d').length) lim)]))
   (ob:=CE z ((r0 t p ck o (some 13) i j e).mt (c::d').length (some 13)) (13::init)∧V.dat (.str (eR (13::c::d') none (some (-1))))=V.dat (.str (13::init))∧Ao z (13::c::d') 13∧Ao z (13::c::d') 13∧pK z t p 10240 (c::d')∧CP z (r0 t p ck o (some 13) i j e)∧True)
   (nH hi (aA (li hl') (aA (by rw[← cX];exact decide_eq_true (by rw[List.length_cons,List.length_cons];lia)) (aA (li hl') (aA (li (by show 1+_≤_;lia)) aE))))) ⟨h3,congrArg (fun x=>V.dat (.str x)) e2,bN e1 rfl,bN e1 rfl,h2,h1,trivial⟩ (by kernel_rfl)
end
end
section
noncomputable def md:Bool→Nm→Nm
 |_,[]=>[]
 |b,c::r=>bif Nat.beq c 13 then 10::md true r else bif b&&Nat.beq c 10 then md false r else c::md false r
theorem eA (b:Bool)(c:Nat)(r:Nm):md b (c::r)=bif Nat.beq c 13 then 10::md true r else bif b&&Nat.beq c 10 then md false r else c::md false r:=rfl
noncomputable def DI:Bool→Nm→Bool
 |b,[]=>b
 |_,c::r=>DI (Nat.beq c 13) r
theorem nI {a b:Nat}(h:a≠b):Nat.beq a b=false:=by rw[zS];exact decide_eq_false h
theorem Jq {a b:Nat}(h:Nat.beq a b=false):a≠b:=fun e=>by rw[e,Nat.beq_refl]at h;cases h
theorem fV:∀ (b:Bool) (x y:Nm),md b (x++y)=md b x++md (DI b x) y
 |_,[],_=>rfl
 |b,c::r,y=>by
  show md b (c::(r++y))=md b (c::r)++md (DI (Nat.beq c 13) r) y
  rw[eA,eA]
  cases e:Nat.beq c 13 with
  |true=>exact congrArg (10::·) (fV true r y)
  |false=>cases(b&&Nat.beq c 10)with
   |true=>exact fV false r y
   |false=>exact congrArg (c::·) (fV false r y)
theorem DJ (l:Nm)(c:Nat):fI [13] [10] 0 (c::l)=(if c=13 then 10 else c)::fI [13] [10] 0 l:=by
 rw[fI]
 by_cases h:c=13
 ·subst h;simp[List.isPrefixOf]
 ·rw[if_neg (by simp[List.isPrefixOf,Ne.symm h]),if_neg h]
theorem jU:∀ (n:Nat) (d:Nm),d.length≤n→aY d=md false d
 |_,[],_=>rfl
 |0,_::_,h=>absurd h (by simp)
 |n+1,c::r,h=>by
  have hr:r.length≤n:=by simpa using h
  unfold aY
  by_cases q:c=13
  ·subst q
   cases r with
   |nil=>rfl
   |cons k r'=>
    by_cases e:k=10
    ·subst e
     have h1:fI [13,10] [10] 0 (13::10::r')=10::fI [13,10] [10] 0 r':=by
      rw[fI,if_pos (by simp[List.isPrefixOf])];rfl
     rw[h1,DJ,if_neg (by decide)]
     exact congrArg (10::·) (jU n r' (Nat.le_of_succ_le hr))
    ·have h1:fI [13,10] [10] 0 (13::k::r')=13::fI [13,10] [10] 0 (k::r'):=by
      rw[fI,if_neg (by simp[List.isPrefixOf,Ne.symm e])]
     rw[h1,DJ,if_pos rfl]
     refine congrArg (10::·) ((jU n (k::r') hr).trans ?_)
     rw[eA,eA,nI e]
     rfl
  ·have h1:fI [13,10] [10] 0 (c::r)=c::fI [13,10] [10] 0 r:=by
    rw[fI,if_neg (by simp[List.isPrefixOf,Ne.symm q])]
   rw[h1,DJ,if_neg q]
   refine(congrArg (c::·) (jU n r hr)).trans ?_
   rw[eA,nI q]
   rfl
theorem cB (d:Nm):aY d=md false d:=jU d.length d (Nat.le_refl _)
theorem Qd (b:Bool){c:Nat}{r:Nm}(h:b=false):md b (c::r)≠[]:=by
 subst h
 rw[eA]
 cases Nat.beq c 13 with
 |true=>exact nofun
 |false=>exact nofun
theorem nJ {d:Nm}(h:d≠[]):aY d≠[]:=by
 rw[cB]
 cases d with
 |nil=>exact absurd rfl h
 |cons c r=>exact Qd false rfl
theorem nK:∀ (b:Bool) (x:Nm) (c:Nat),DI b (x++[c])=Nat.beq c 13
 |_,[],_=>rfl
 |_,k::x,c=>nK (Nat.beq k 13) x c
theorem pL {a b:Nm}(h:DI false a=false):aY a++aY b=aY (a++b):=by
 rw[cB,cB,cB,fV,h]
theorem Qe (x:Nat){r:Nm}(h:x≠10):md true (x::r)=md false (x::r):=by
 rw[eA,eA,nI h];rfl
theorem tC (init b:Nm):aY init++aY (13::b)=aY (init++13::b):=by
 rw[cB,cB,cB,fV]
 exact congrArg (md false init++·) (by cases DI false init <;>rfl)
structure Rd (z:bS) (as:List V) (r r':Stm):Prop where
 call:CH z r as true r'
 ok:r'.Ok
 off:r'.off=0
 ne:r'.chunk≠[]
 eq:r'.chunk++aY r'.rest=aY r.rest
 less:r'.rest.length<r.rest.length
 pos:(r'.ln,r'.cl)=dJ (r.ln,r.cl) r.chunk
 er:r'.er+bT r'.rest=r.er+bT r.rest
section
variable {z:bS}
theorem Jr (z:bS)(r:Stm):CP z r:=by
 have h:=Jo z (r:=r) (Nat.le_refl r.chunk.length)
 unfold Hy at h
 rw[List.take_length]at h
 exact h
theorem tD {r:Stm}(ok:r.Ok)(h:r.rest=[]):CH z r [] false (r.mt 0 none):=by
 obtain⟨t,p,ck,o,b,i,j,e⟩:=r
 have hd:t.drop p=[]:=(List.append_eq_nil_iff.mp h).2
 have hb:=(List.append_eq_nil_iff.mp h).1
 have h2:pK z t p 10240 ((t.drop p).take 10240):=DG z ok.pl ok.len
 rw[hd]at h2
 cases b with
 |some c=>cases hb
 |none=>exact Ma (Jr z _) h2
theorem v9 {x y:Nm}(h:0<x.length):y.length < (x++y).length:=List.length_append▸Nat.lt_add_of_pos_left h
theorem yJ {a:Nat}{z x y:Nm}(e:z=(a::x)++y):y.length<z.length:=e▸v9 (Nat.succ_pos _)
theorem pM (i:Nm)(l:Nat):∃ c d',c::d'=i++[l]:=by
 cases i with
 |nil=>exact⟨_,_,rfl⟩
 |cons c i=>exact⟨_,_,rfl⟩
theorem pN {t:Nm}{p o e:Nat}{ck:Nm}{i j:Int}{b:Option Nat}(ok:(r0 t p ck o b i j e).Ok){as:List V}{part tail d:Nm}{b':Option Nat}(ht:t.drop p=part++tail)(hd:d≠[])(hl:d.length≤20000)(hb:b'=none∨b'=some 13)
  (hm:aY d++aY (b'.toList++tail)=aY (b.toList++(part++tail)))(hs:(b'.toList++tail).length < (b.toList++(part++tail)).length)(he:bT d+bT (b'.toList++tail)=bT (b.toList++(part++tail)))
  (h:CE z ((r0 t p ck o b i j e).mt part.length b') d→CH z (r0 t p ck o b i j e) as true ((r0 t p ck o b i j e).rd part.length b' d))(hg:∀ c∈d,nA c):Rd z as (r0 t p ck o b i j e) ((r0 t p ck o b i j e).rd part.length b' d):=by
 have h1:=ok.er
 have hl2:t.drop (p+part.length)=tail:=by rw[← List.drop_drop,ht,List.drop_left]
 have hr:(r0 t p ck o b i j e).rest=b.toList++(part++tail):=congrArg (b.toList++·) ht
 have hr':((r0 t p ck o b i j e).rd part.length b' d).rest=b'.toList++tail:=congrArg (b'.toList++·) hl2
 rw[hr]at h1
 have h1:e+bT (b.toList++(part++tail))≤10240:=h1
 have hpl:p+part.length≤t.length:=by
  have:=congrArg List.length ht
  rw[List.length_drop,List.length_append]at this
  have:=ok.pl
  have:p≤t.length:=this
  lia
 exact⟨h (MZ z hg (show e+_≤_ by lia)),⟨hpl,ok.len,ok.sg,hb,Nat.zero_le _,q5 hl,by rw[hr'];show e+bT d+_≤_;lia⟩,rfl,nJ hd,by rw[hr',hr];exact hm,by rw[hr',hr];exact hs,rfl,by rw[hr',hr];show e+bT d+_=e+_;lia⟩
theorem DK:nA 13:=(rfl:v8 13=true)
theorem kY {r:Stm}{as:List V}{k:Nat}(ok:r.Ok)(sz:Sz as k)(hb:as≠[]→r.buf=none)(hk:2≤k)(hbig:as≠[]→2≤(r.text.drop r.place).length)(h:r.rest≠[]):∃ r',Rd z as r r':=by
 obtain⟨t,p,ck,o,b,i,j,e⟩:=r
 have h1:=Jr z (r0 t p ck o b i j e)
 have h2:pK z t p k ((t.drop p).take k):=DG z ok.pl ok.len
 have hs:∀ c∈t.drop p,nA c:=fun c m=>ok.sg c (List.mem_of_mem_drop m)
 have hl:(t.drop p).length≤10240:=by rw[List.length_drop];have:=ok.len;exact Nat.le_trans (Nat.sub_le _ _) this
 have hh:(b.toList++t.drop p)≠[]:=h
 have ht:t.drop p=(t.drop p).take k++(t.drop p).drop k:=(List.take_append_drop ..).symm
 have hone:((t.drop p).take k).length≤1→(t.drop p).drop k=[]:=fun q=>List.drop_eq_nil_of_le (by rw[List.length_take]at q;lia)
 have hle:((t.drop p).take k).length≤10240:=by rw[List.length_take];lia
 generalize (t.drop p).take k=part at *
 generalize (t.drop p).drop k=tail at *
 have hs:∀ c∈part++tail,nA c:=by rw[← ht];exact hs
 have hsp:∀ c∈part,nA c:=fun c m=>hs c (List.mem_append_left _ m)
 rw[ht]at hh
 have hbb:b=none∨b=some 13:=ok.buf
 rcases List.eq_nil_or_concat part with rfl|⟨init,l,rfl⟩
 ·have ht0:=hone (Nat.zero_le _)
  subst ht0
  rcases hbb with rfl|rfl
  ·exact absurd rfl hh
  ·have has:as=[]:=Classical.byContradiction fun q=>nomatch hb q
   subst has
   rcases sz with⟨_,rfl⟩|q
   ·exact⟨_,pN (b':=none) (d:=[13]) ok ht nofun (by decide) (.inl rfl) (List.append_nil _) Nat.zero_lt_one rfl (fun h3=>Md h1 h2 h3) fun c m=>by rw[List.mem_singleton.mp m];exact DK⟩
   ·cases q
 ·rw[List.concat_eq_append]at *
  have hcl:nA l:=hsp l (List.mem_append_right _ (.head _))
  rcases hbb with rfl|rfl
  ·cases init with
   |nil=>
    have ht0:=hone (Nat.le_refl _)
    subst ht0
    by_cases has:as=[]
    ·subst has
     rcases sz with⟨_,rfl⟩|q
     ·exact⟨_,pN (b':=none) (d:=[l]) ok ht nofun (by decide:1≤20000) (.inl rfl) (List.append_nil _) Nat.zero_lt_one rfl (fun h3=>Mc h1 h2 h3) hsp⟩
     ·cases q
    ·exact absurd (hbig has) (by rw[show t.drop p=_ from ht];exact Nat.lt_irrefl 1)
   |cons c init=>
    have h1l:1 < ((c::init)++[l]).length:=List.length_append▸Nat.succ_lt_succ (Nat.succ_pos _)
    have hl':((c::init)++[l]).length≤20000:=Nat.le_trans hle (by decide)
    by_cases e:l=13
    ·subst e
     have ap:((c::init)++[13])++tail=(c::init)++13::tail:=List.append_assoc (c::init) [13] tail
     exact⟨_,pN (b':=some 13) (d:=c::init) ok ht nofun (Nat.le_trans (List.length_append▸Nat.le_add_right _ _) hl') (.inr rfl) ((tC _ _).trans (congrArg aY ap.symm)) (yJ ap) ((jR (c::init) (13::tail)).symm.trans (congrArg bT ap.symm)) (fun h3=>Qb (c:=c) (d':=init++[13]) sz rfl hl' h1l h1 h2 h3) fun x m=>hsp x (List.mem_append_left _ m)⟩
    ·exact⟨_,pN (b':=none) (d:=(c::init)++[l]) ok ht nofun hl' (.inl rfl) (pL (by rw[nK];exact nI e)) (v9 (Nat.lt_trans Nat.zero_lt_one h1l)) (jR _ _).symm (fun h3=>Hz (c:=c) (d':=init++[l]) sz rfl (jT (c::init) l) hl' h1l hcl e h1 h2 h3) hsp⟩
  ·have has:as=[]:=Classical.byContradiction fun q=>nomatch hb q
   subst has
   rcases sz with⟨_,rfl⟩|q
   ·by_cases e:l=13
    ·subst e
     have em:(some 13:Option Nat).toList++((init++[13])++tail)=(13::init)++13::tail:=congrArg (13::·) (List.append_assoc init [13] tail)
     obtain⟨c,d',e0⟩:=pM init 13
     exact⟨_,pN (b':=some 13) (d:=13::init) ok ht nofun (Nat.le_trans (List.length_append (as:=init) (bs:=[13])▸hle:init.length+1≤10240) (by decide)) (.inr rfl) ((tC _ _).trans (congrArg aY em.symm)) (yJ em) ((jR (13::init) (13::tail)).symm.trans (congrArg bT em.symm)) (fun h3=>Qc e0 hle h1 h2 h3) fun x m=>(List.mem_cons.mp m).elim (fun e=>e▸DK) fun m=>hsp x (List.mem_append_left _ m)⟩
    ·obtain⟨c,d',e0⟩:=pM init l
     exact⟨_,pN (b':=none) (d:=13::(init++[l])) ok ht nofun (Nat.le_trans (Nat.succ_le_succ hle) (by decide)) (.inl rfl) (pL (by rw[show 13::(init++[l])=(13::init)++[l]from rfl,nK];exact nI e)) (v9 (x:=13::(init++[l])) (Nat.succ_pos _)) (jR (13::(init++[l])) tail).symm (fun h3=>IB e0 (jT (13::init) l) hle hcl e h1 h2 h3) fun x m=>(List.mem_cons.mp m).elim (fun e=>e▸DK) fun m=>hsp x m⟩
   ·cases q
end
end
section
noncomputable def wA:Nm:=[99,104,97,114]
noncomputable def Pre (a b:Nm):Prop:=(∃ z,a=b++z)∨∃ z,b=a++z
structure At' (T:Nm) (x:Bool) (E:Nat) (r:Stm) (ms l:Nm):Prop where
 ok:r.Ok
 len:l.length≤15000
 eq:l=r.chunk.drop r.off++aY r.rest
 pre:Pre (r.chunk.take r.off).reverse ms
 st:x=true→∃ p,T=p++(r.chunk.take r.off++l)∧(r.ln,r.cl)=dJ (0,0) p
 fr:x=true→ms≠[]→0<r.off
 er:r.er+bT r.rest=E
theorem Pre.nil {a:Nm}:Pre a []:=.inl ⟨a,rfl⟩
theorem Pre.top {ms:Nm}:Pre [] ms:=.inr ⟨ms,rfl⟩
theorem Pre.cons {c:Nat}{a ms:Nm}:Pre a ms→Pre (c::a) (c::ms)
 |.inl ⟨y,e⟩=>.inl ⟨y,congrArg (c::·) e⟩
 |.inr ⟨y,e⟩=>.inr ⟨y,congrArg (c::·) e⟩
theorem Pre.tail {c d:Nat}{a ms:Nm}:Pre (c::a) (d::ms)→c=d∧Pre a ms
 |.inl ⟨y,e⟩=>(List.cons.inj e).imp id fun e=>.inl ⟨y,e⟩
 |.inr ⟨y,e⟩=>(List.cons.inj e).imp Eq.symm fun e=>.inr ⟨y,e⟩
theorem At'.none {T:Nm}{x:Bool}{E:Nat}{r:Stm}{ms l:Nm}(h:At' T x E r ms l):At' T x E r [] l:=⟨h.ok,h.len,h.eq,.nil,h.st,fun _ q=>absurd rfl q,h.er⟩
theorem At'.lose {T:Nm}{x:Bool}{E:Nat}{r:Stm}{ms l:Nm}(h:At' T x E r ms l):At' T false E r ms l:=⟨h.ok,h.len,h.eq,h.pre,nofun,nofun,h.er⟩
theorem At'.and {T:Nm}{x:Bool}{E:Nat}{r:Stm}{l:Nm}(h:At' T x E r [] l)(b:Bool):At' T (x&&b) E r [] l:=by
 cases b with
 |true=>rw[Bool.and_true];exact h
 |false=>rw[Bool.and_false];exact h.lose
theorem pO {d:Nm}(h:aY d=[]):d=[]:=Classical.byContradiction fun q=>nJ q h
theorem At'.chk {T:Nm}{x:Bool}{E:Nat}{r:Stm}{ms l:Nm}(h:At' T x E r ms l):r.chunk.length-r.off≤15000:=by
 have:=congrArg List.length h.eq
 rw[List.length_append,List.length_drop]at this
 have:=h.len
 lia
theorem At'.pos {T:Nm}{E:Nat}{r:Stm}{ms l:Nm}(h:At' T true E r ms l):∃ p,T=p++l∧r.pos=dJ (0,0) p:=by
 obtain⟨p,e,q⟩:=h.st rfl
 exact⟨p++r.chunk.take r.off,by rw[e,List.append_assoc],by unfold Stm.pos;rw[q,fT]⟩
noncomputable abbrev aQ (z:bS)(r:Stm)(v:V)(r':Stm):Prop:=CallOk z.c 4 133 [.ref 0] (SL r) v (SL r')
noncomputable abbrev iN (z:bS)(r:Stm)(v:V)(r':Stm):Prop:=CallOk z.c 1 163 [.ref 0,v] (SL r) (.dat .non) (SL r')
noncomputable abbrev OX (k:Bool)(r:Stm):Hi:=.cal 141 3 [0,1,2,3,4] (.dat (.boo k)) (SL r)
section
variable {z:bS}{t ck:Nm}{p o e:Nat}{b:Option Nat}{i j:Int}{T:Nm}{x:Bool}{E:Nat}
theorem jW {α:Type}(xs:List α){k:Nat}{x:α}(h:xs[k]? =some x):uR xs (k:Int)=some x:=by
 have hl:=(List.getElem?_eq_some_iff.mp h).1
 show(match Nat.blt k xs.length with|true=>some k|false=>none).bind _=_
 rw[show Nat.blt k xs.length=true from Nat.ble_eq_true_of_le hl]
 exact h
theorem AS {c:Nat}(h:ck[o]? =some c)(hl:ck.length≤20000):aQ z (r0 t p ck o b i j e) (.dat (.str [c])) (r0 t p ck (o+1) b i j e):=
 have lt:=(List.getElem?_eq_some_iff.mp h).1
 z.use (hs:=[.tst 67011045 false,.sub 71015038 (.dat (.str [c]))]) (o:=.fz [] []) (g:=cg [(false,!i6 o ck.length)])
  (ob:=(∀ hp,cG z.c 3 hp getItem z.c.VT (.dat (.str ck)) (.dat (.int o)) (.dat (.str [c])) hp)∧True)
  (aA (by rw[← cX];exact congrArg (!·) (decide_eq_true (by lia))) aE) ⟨bN (jW ck h) (li (by lia)),trivial⟩ (by kernel_rfl)
theorem AT {c:Nat}{r':Nm}(h:ck.length≤o){b1:Option Nat}{t1:Nm}{p1 e1:Nat}{i1 j1:Int}(hr:CH z (r0 t p ck o b i j e) [] true (r0 t1 p1 (c::r') 0 b1 i1 j1 e1)):aQ z (r0 t p ck o b i j e) (.dat (.str [c])) (r0 t1 p1 (c::r') 1 b1 i1 j1 e1):=
 z.use (hs:=[.tst 67011045 true,OX true (r0 t1 p1 (c::r') 0 b1 i1 j1 e1)]) (o:=.fz [] []) (g:=cg [(true,!i6 o ck.length)]) (aA (by rw[← cX];exact congrArg (!·) (decide_eq_false (by lia))) aE) (an hr trivial) (by kernel_rfl)
theorem DL (h:ck.length≤o){r':Stm}(hr:CH z (r0 t p ck o b i j e) [] false r'):aQ z (r0 t p ck o b i j e) (.dat .non) r':=
 z.use (hs:=[.tst 67011045 true,OX false r']) (o:=.fz [] []) (g:=cg [(true,!i6 o ck.length)]) (aA (by rw[← cX];exact congrArg (!·) (decide_eq_false (by omega))) aE) (an hr trivial) (by kernel_rfl)
theorem aB {r:Stm}{ms l:Nm}{c:Nat}(h:At' T x E r ms (c::l)):∃ r',aQ z r (.dat (.str [c])) r'∧At' T x E r' (c::ms) l:=by
 obtain⟨t,p,ck,o,b,i,j,e⟩:=r
 have he:c::l=ck.drop o++aY (r0 t p ck o b i j e).rest:=h.eq
 have hle:l.length≤15000:=Nat.le_of_succ_le h.len
 have hst:x=true→∃ q,T=q++(ck.take o++c::l)∧(i,j)=dJ (0,0) q:=h.st
 cases q:ck[o]? with
 |some k=>
  have hl:=(List.getElem?_eq_some_iff.mp q).1
  have hd:ck.drop o=k::ck.drop (o+1):=by rw[List.drop_eq_getElem_cons hl,(List.getElem?_eq_some_iff.mp q).2]
  rw[hd]at he
  obtain⟨rfl,he'⟩:=List.cons.inj he
  have ht:ck.take (o+1)=ck.take o++[c]:=by rw[List.take_add_one,q];rfl
  refine⟨_,AS q h.ok.chk,⟨h.ok.pl,h.ok.len,h.ok.sg,h.ok.buf,hl,h.ok.chk,h.ok.er⟩,hle,he',?_,fun y=>(hst y).elim fun p' w=>⟨p',by rw[w.1];show _=_++(ck.take (o+1)++_);rw[ht,List.append_assoc];rfl,w.2⟩,fun _ _=>Nat.succ_pos _,h.er⟩
  show Pre (ck.take (o+1)).reverse (c::ms)
  rw[ht,List.reverse_append]
  exact h.pre.cons
 |none=>
  have hl:=List.getElem?_eq_none_iff.mp q
  rw[List.drop_of_length_le hl,List.nil_append]at he
  rw[List.take_of_length_le hl]at hst
  obtain⟨⟨t1,p1,ck1,o1,b1,i1,j1,e1⟩,hc,ok,ho,hn,hq,_,hp,her⟩:=kY (z:=z) h.ok (.inl ⟨rfl,rfl⟩) nofun (by decide) nofun (by intro e;rw[e]at he;cases he)
  have ho:o1=0:=ho
  subst ho
  have hq:ck1++aY (r0 t1 p1 ck1 0 b1 i1 j1 e1).rest=aY (r0 t p ck o b i j e).rest:=hq
  rw[← he]at hq
  cases ck1 with
  |nil=>exact absurd rfl hn
  |cons k r'=>
   obtain⟨rfl,hq'⟩:=List.cons.inj hq
   exact⟨_,AT hl hc,⟨ok.pl,ok.len,ok.sg,ok.buf,Nat.succ_le_succ (Nat.zero_le _),ok.chk,ok.er⟩,hle,hq'.symm,Pre.top.cons,fun y=>(hst y).elim fun p' w=>⟨p'++ck,by rw[w.1,List.append_assoc];rfl,(hp.trans (by show dJ (i,j) ck=_;rw[w.2,fT]):(i1,j1)=dJ (0,0) (p'++ck))⟩,fun _ _=>Nat.succ_pos _,her.trans h.er⟩
theorem fM {r:Stm}{ms:Nm}(h:At' T x E r ms []):∃ r',aQ z r (.dat .non) r'∧At' T x E r' [] []:=by
 obtain⟨t,p,ck,o,b,i,j,e⟩:=r
 have he:=List.append_eq_nil_iff.mp h.eq.symm
 have hr:=pO he.2
 have hc:=tD (z:=z) h.ok hr
 have hl:ck.length≤o:=List.drop_eq_nil_iff.mp he.1
 have hst:x=true→∃ q,T=q++(ck.take o++[])∧(i,j)=dJ (0,0) q:=h.st
 have hb:b=none:=by cases b with|none=>rfl|some k=>cases(List.append_eq_nil_iff.mp hr).1
 subst hb
 exact⟨_,DL hl hc,⟨⟨h.ok.pl,h.ok.len,h.ok.sg,.inl rfl,Nat.le_refl _,Nat.zero_le _,h.ok.er⟩,Nat.zero_le _,by show []=[]++aY (r0 t p ck o none i j e).rest;rw[hr];rfl,.nil,fun y=>(hst y).elim fun p' w=>⟨p'++ck,by rw[w.1,List.take_of_length_le hl,List.append_nil];exact(List.append_nil _).symm,by rw[fT,← w.2]⟩,fun _ q=>absurd rfl q,h.er⟩⟩
theorem pQ {r:Stm}:iN z r (.dat .non) r:=z.use (hs:=[]) (o:=.fz [] []) (g:=true) rfl trivial (by kernel_rfl)
theorem IC {c:Nat}(hl:ck.length≤15000):iN z (r0 t p ck 0 b i j e) (.dat (.str [c])) (r0 t p (c::ck) 0 b i j e):=
 z.use (hs:=[]) (o:=.fz [] []) (g:=cg [(true,Nat.ble ([c].length+ck.length) lim)]) (aA (li (by show 1+_≤_;lia)) aE) trivial (by kernel_rfl)
theorem ID {c:Nat}(h:ck[o]? =some c)(hl:o≤20000):iN z (r0 t p ck (o+1) b i j e) (.dat (.str [c])) (r0 t p ck o b i j e):=
 z.use (hs:=[.led 132 (SL (r0 t p ck o b i j e)++[.fr [(d5,.ref 0),(wA,.dat (.str [c]))]]),.sub 132023051 (.dat (.str [c])),.tst 132023059 true]) (o:=.fz [] []) (g:=cg [(true,nb [c] [c])])
  (ob:=(∀ hp,cG z.c 0 hp getItem z.c.VT (.dat (.str ck)) (.dat (.int o)) (.dat (.str [c])) hp)∧(SL (r0 t p ck (o+1) b i j e)).set 1 (.ns [(cZ,.mth 148 0),(m9,.dat (.lst [.int 0])),(jQ,.ref 2),(yI,.dat (.str ck)),(lJ,.dat (.int ck.length)),(iF,.dat (.int (((o+1:Nat):Int)-1))),
  (tA,.ref 4),(gQ,.dat (.int i)),(iG,.dat (.int j)),(dX,.dat (QY b))])++[.fr [(d5,.ref 0),(wA,.dat (.str [c]))]]=SL (r0 t p ck o b i j e)++[.fr [(d5,.ref 0),(wA,.dat (.str [c]))]]∧True)
  (aA (iZ _) aE) ⟨bN (jW ck h) (li hl),by rw[show((o+1:Nat):Int)-1=o by lia];rfl,trivial⟩ (by kernel_rfl)
theorem aN {r:Stm}{ms l:Nm}{c:Nat}(h:At' T x E r (c::ms) l)(hl:l.length<15000){y:Bool}{ms':Nm}(hy:(y=false∧ms'=ms)∨(y=x∧ms'=[])):∃ r',iN z r (.dat (.str [c])) r'∧At' T y E r' ms' (c::l):=by
 obtain⟨t,p,ck,o,b,i,j,e⟩:=r
 have he:l=ck.drop o++aY (r0 t p ck o b i j e).rest:=h.eq
 have hk:ck.length-o≤15000:=h.chk
 have hf:y=true→ms'≠[]→0 < (o-1):=fun w n=>hy.elim (fun q=>nomatch q.1.symm.trans w) fun q=>absurd q.2 n
 have hms:∀ {a:Nm},Pre a ms→Pre a ms':=fun q=>hy.elim (fun w=>w.2▸q) fun w=>w.2 ▸ .nil
 cases o with
 |zero=>
  have hx:y=false:=hy.elim (·.1) fun w=>by
   cases x with
   |false=>exact w.1
   |true=>exact absurd (h.fr rfl nofun) (Nat.lt_irrefl _)
  subst hx
  exact⟨_,IC (by lia),⟨h.ok.pl,h.ok.len,h.ok.sg,h.ok.buf,Nat.zero_le _,by show ck.length+1≤_;lia,h.ok.er⟩,hl,congrArg (c::·) he,.top,nofun,nofun,h.er⟩
 |succ o=>
  have ho:o<ck.length:=h.ok.off
  have hp:=h.pre
  have ht:ck.take (o+1)=ck.take o++[ck[o]]:=by rw[List.take_add_one,List.getElem?_eq_getElem ho];rfl
  rw[show(r0 t p ck (o+1) b i j e).chunk.take (o+1)=ck.take o++[ck[o]]from ht,List.reverse_append]at hp
  obtain⟨rfl,hp'⟩:=Pre.tail hp
  have hst:y=true→∃ q,T=q++(ck.take o++ck[o]::l)∧(i,j)=dJ (0,0) q:=fun w=>hy.elim (fun q=>nomatch q.1.symm.trans w) fun q=>(h.st (q.1.symm.trans w)).elim fun p' v=>⟨p',by
   have v1:T=p'++(ck.take (o+1)++l):=v.1
   rw[v1,ht,List.append_assoc];rfl,v.2⟩
  exact⟨_,ID (List.getElem?_eq_getElem ho) (Nat.le_trans (Nat.le_of_lt ho) h.ok.chk),⟨h.ok.pl,h.ok.len,h.ok.sg,h.ok.buf,Nat.le_of_lt ho,h.ok.chk,h.ok.er⟩,hl,by
   show _=ck.drop o++aY (r0 t p ck (o+1) b i j e).rest
   rw[List.drop_eq_getElem_cons ho,he];rfl,hms hp',hst,fun w n=>hf w n,h.er⟩
end
end
section
noncomputable def q6:Nm:=[99,104,97,114,97,99,116,101,114,115]
noncomputable def wC:Nm:=[111,112,112,111,115,105,116,101]
noncomputable def Ur:Nm:=[114,118]
noncomputable def yK:Nm:=[101,110,100]
noncomputable def Ap:Fn:=kS iU [15,9] [.dat (.boo false)]
noncomputable def oW:WhlI:=QO (fG Ap.body 1)
noncomputable def iW:WhlI:=QO (fG oW.b 1)
noncomputable def UL (r:Stm)(ch:D)(opp:Bool)(vs:List V)(eo:List (Nm×V)):List O:=
 SL r++[.fr ([(d5,.ref 0),(q6,.dat ch),(wC,.dat (.boo opp)),(Ur,.ref 6)]++eo),.lst vs]
noncomputable abbrev eN (e:Nat):List (Nm×V):=[(yK,.dat (.int e))]
noncomputable def oK (ch:D)(tst:Nat→Bool):Prop:=∀ (z:bS) (n:Nat) (c:Nat) (hp:List O),cG z.c n hp (compareOp (bR .isin)) jA (.dat (.str [c])) (.dat ch) (tst c) hp
noncomputable def cW (tst:Nat→Bool)(opp:Bool)(c:Nat):Bool:=Al (tst c) opp
section
variable {z:bS}{r:Stm}{ch:D}{opp:Bool}{vs:List V}{t p ck:Nm}{tst:Nat→Bool}
noncomputable abbrev UF:Fx:=⟨5,[],true⟩
theorem Me {e:Nat}(h:e=r.chunk.length):RB z.c Ap.names 3 UF (UL r ch opp vs (eN e)) iW.t false (UL r ch opp vs (eN e)):=
 z.useT (hs:=[.tst 110018039 false]) (g:=cg [(false,!kC e r.chunk.length)]) (aA (by rw[← bE,h,beq_self_eq_true];rfl) aE) trivial (by kernel_rfl)
theorem Js {e c:Nat}{b:Bool}(T:oK ch tst)(h:r.chunk[e]? =some c)(hl:r.chunk.length≤20000)(hb:cW tst opp c=b):RB z.c Ap.names 3 UF (UL r ch opp vs (eN e)) iW.t b (UL r ch opp vs (eN e)):=by
 have lt:=(List.getElem?_eq_some_iff.mp h).1
 have h1:(!kC e r.chunk.length)=true:=by rw[← bE];exact DB (beq_eq_false_iff_ne.mpr (by lia))
 cases b with
 |true=>
  exact z.useT (hs:=[.tst 110018039 true,.sub 110045060 (.dat (.str [c])),.cmp 110045074 (tst c),.tst 110044087 true]) (g:=cg [(true,Al (tst c) opp),(true,!kC e r.chunk.length)])
   (ob:=(∀ hp,cG z.c 3 hp (compareOp (bR .isin)) jA (.dat (.str [c])) (.dat ch) (tst c) hp)∧(∀ hp,cG z.c 3 hp getItem z.c.VT (.dat (.str r.chunk)) (.dat (.int e)) (.dat (.str [c])) hp)∧True)
   (aA hb (aA h1 aE)) ⟨T z 3 c,bN (jW _ h) (li (by lia)),trivial⟩ (by kernel_rfl)
 |false=>
  exact z.useT (hs:=[.tst 110018039 true,.sub 110045060 (.dat (.str [c])),.cmp 110045074 (tst c),.tst 110044087 false]) (g:=cg [(false,Al (tst c) opp),(true,!kC e r.chunk.length)])
   (ob:=(∀ hp,cG z.c 3 hp (compareOp (bR .isin)) jA (.dat (.str [c])) (.dat ch) (tst c) hp)∧(∀ hp,cG z.c 3 hp getItem z.c.VT (.dat (.str r.chunk)) (.dat (.int e)) (.dat (.str [c])) hp)∧True)
   (aA hb (aA h1 aE)) ⟨T z 3 c,bN (jW _ h) (li (by lia)),trivial⟩ (by kernel_rfl)
theorem IE {e:Nat}:RX z.c Ap.names 3 UF (UL r ch opp vs (eN e)) iW.b .next (UL r ch opp vs (eN (e+1))):=z.useX (hs:=[]) (g:=true) rfl trivial (by kernel_rfl)
theorem DM (T:oK ch tst)(hl:r.chunk.length≤20000):∀ (t:Nm) (e:Nat),r.chunk.drop e=t→e≤r.chunk.length→
  Bl z.c Ap.names 3 UF iW.t iW.b 7 (t.length+1) (UL r ch opp vs (eN e)) .next (UL r ch opp vs (eN (e+(t.takeWhile (cW tst opp)).length)))
 | [],e,h,he=>.stop (Me (Nat.le_antisymm he (List.drop_eq_nil_iff.mp h)))
 |c::t,e,h,_=>by
  have hc:r.chunk[e]? =some c:=by have:=congrArg (·[0]?) h;simpa using this
  have ht:r.chunk.drop (e+1)=t:=by rw[← List.drop_drop,h];rfl
  have lt:=(List.getElem?_eq_some_iff.mp hc).1
  cases hp:cW tst opp c with
  |false=>rw[List.takeWhile_cons_of_neg (by rw[hp];exact Bool.false_ne_true)];exact .stop (Js T hc hl hp)
  |true=>
   rw[List.takeWhile_cons_of_pos hp,show e+(c::t.takeWhile (cW tst opp)).length=(e+1)+(t.takeWhile (cW tst opp)).length by rw[List.length_cons];lia]
   exact .turn (Js T hc hl hp) IE rfl .id (DM T hl t (e+1) ht lt)
noncomputable abbrev IS (z:bS)(r:Stm)(ch:D)(opp:Bool)(vs:List V)(u:Nat):Prop:=RS z.c Ap.names 3 UF (UL r ch opp vs (eN r.off)) iW.s .next (UL r ch opp vs (eN (r.off+u)))
theorem DN (T:oK ch tst)(ok:r.Ok):IS z r ch opp vs ((r.chunk.drop r.off).takeWhile (cW tst opp)).length:=vI (DM T ok.chk _ _ rfl ok.off)
theorem q8 {eo:List (Nm×V)}:RB z.c Ap.names 3 UF (UL r ch opp vs eo) oW.t true (UL r ch opp vs eo):=z.useT (hs:=[]) (g:=true) rfl trivial (by kernel_rfl)
theorem Qf {eo:List (Nm×V)}(ho:eo=[]∨∃ v,eo=[(yK,v)]):RS z.c Ap.names 3 UF (UL r ch opp vs eo) (fG oW.b 0) .next (UL r ch opp vs (eN r.off)):=by
 rcases ho with rfl|⟨v,rfl⟩
 ·exact z.useS (hs:=[]) (g:=true) rfl trivial (by kernel_rfl)
 ·exact z.useS (hs:=[]) (g:=true) rfl trivial (by kernel_rfl)
noncomputable abbrev oB:List Stmt:=oW.b.drop 1
noncomputable abbrev OY (r:Stm)(ch:D)(opp:Bool)(vs:List V)(u:Nat):Hi:=.stm 110 .next (UL r ch opp vs (eN (r.off+u)))
noncomputable abbrev OB (z:bS)(r:Stm)(ch:D)(opp:Bool)(vs:List V)(fl:Fl)(r':Stm)(vs':List V)(u:Nat):Prop:=RX z.c Ap.names 3 UF (UL r ch opp vs (eN r.off)) oB fl (UL r' ch opp vs' (eN u))
variable {i j:Int}{e0 o pl u:Nat}{tx:Nm}{b:Option Nat}
theorem IF (hi:IS z (r0 tx pl ck o b i j e0) ch opp vs 0)(h:o≠ck.length):OB z (r0 tx pl ck o b i j e0) ch opp vs .brk (r0 tx pl ck o b i j e0) vs o:=
 z.useX (hs:=[OY (r0 tx pl ck o b i j e0) ch opp vs 0,.tst 112015038 true,.tst 113019053 true]) (g:=cg [(true,!kC o ck.length),(true,kC o o)]) (aA (by rw[← bE];exact DB (beq_eq_false_iff_ne.mpr (by lia))) (aA (by rw[← bE,beq_self_eq_true]) aE)) (an hi trivial) (by kernel_rfl)
theorem Mf (hi:IS z (r0 tx pl ck o b i j e0) ch opp vs u)(h0:0<u)(h:o+u<ck.length)(hl:ck.length≤20000)(hv:vs.length≤20000)(e:eR ck (some (o:Int)) (some ((o+u:Nat):Int))=p):OB z (r0 tx pl ck o b i j e0) ch opp vs .brk (r0 tx pl ck (o+u) b i j e0) (vs++[.dat (.str p)]) (o+u):=
 z.useX (hs:=[OY (r0 tx pl ck o b i j e0) ch opp vs u,.tst 112015038 false,.tst 115017038 true,.val 116026058 (.dat (.str p))]) (g:=cg [(true,Nat.ble vs.length lim),(true,Nat.ble ck.length lim),(true,!kC (o+u:Nat) ck.length),(false,kC (o+u:Nat) o)])
  (ob:=V.dat (.str (eR ck (some (o:Int)) (some ((o+u:Nat):Int))))=V.dat (.str p)∧IS z (r0 tx pl ck o b i j e0) ch opp vs u∧True)
  (aA (li hv) (aA (li hl) (aA (by rw[← bE];exact DB (beq_eq_false_iff_ne.mpr (by lia))) (aA (by rw[← bE];exact beq_eq_false_iff_ne.mpr (by lia)) aE)))) ⟨congrArg (fun x=>V.dat (.str x)) e,hi,trivial⟩ (by kernel_rfl)
theorem Qg {r':Stm}(hi:IS z (r0 tx pl ck o b i j e0) ch opp vs 0)(h:o=ck.length)(hl:ck.length≤20000)(hv:vs.length≤20000)(e:eR ck (some (o:Int)) none=p)(k:Bool)(hr:CH z (r0 tx pl ck o b i j e0) [] k r'):OB z (r0 tx pl ck o b i j e0) ch opp vs (bif k then .next else .brk) r' (vs++[.dat (.str p)]) o:=by
 have g:cg [(true,Nat.ble vs.length lim),(true,Nat.ble ck.length lim),(false,!kC o ck.length),(true,kC o o)]=true:=aA (li hv) (aA (li hl) (aA (by rw[← bE,h,beq_self_eq_true];rfl) (aA (by rw[← bE,beq_self_eq_true]) aE)))
 cases k with
 |true=>
  exact z.useX (hs:=[OY (r0 tx pl ck o b i j e0) ch opp vs 0,.tst 112015038 true,.tst 113019053 false,.val 119022051 (.dat (.str p)),OX true r'])
   (ob:=CH z (r0 tx pl ck o b i j e0) [] true r'∧V.dat (.str (eR ck (some (o:Int)) none))=V.dat (.str p)∧IS z (r0 tx pl ck o b i j e0) ch opp vs 0∧True) g ⟨hr,congrArg (fun x=>V.dat (.str x)) e,hi,trivial⟩ (by kernel_rfl)
 |false=>
  exact z.useX (hs:=[OY (r0 tx pl ck o b i j e0) ch opp vs 0,.tst 112015038 true,.tst 113019053 false,.val 119022051 (.dat (.str p)),OX false r'])
   (ob:=CH z (r0 tx pl ck o b i j e0) [] false r'∧V.dat (.str (eR ck (some (o:Int)) none))=V.dat (.str p)∧IS z (r0 tx pl ck o b i j e0) ch opp vs 0∧True) g ⟨hr,congrArg (fun x=>V.dat (.str x)) e,hi,trivial⟩ (by kernel_rfl)
theorem Us {r':Stm}(hi:IS z (r0 tx pl ck o b i j e0) ch opp vs u)(h0:0<u)(h:o+u=ck.length)(hl:ck.length≤20000)(hv:vs.length≤20000)(e:eR ck (some (o:Int)) none=p)(k:Bool)(hr:CH z (r0 tx pl ck o b i j e0) [] k r'):OB z (r0 tx pl ck o b i j e0) ch opp vs (bif k then .next else .brk) r' (vs++[.dat (.str p)]) (o+u):=by
 have g:cg [(true,Nat.ble vs.length lim),(true,Nat.ble ck.length lim),(false,!kC (o+u:Nat) ck.length),(false,kC (o+u:Nat) o)]=true:=aA (li hv) (aA (li hl) (aA (by rw[← bE,h,beq_self_eq_true];rfl) (aA (by rw[← bE];exact beq_eq_false_iff_ne.mpr (by lia)) aE)))
 cases k with
 |true=>
  exact z.useX (hs:=[OY (r0 tx pl ck o b i j e0) ch opp vs u,.tst 112015038 false,.tst 115017038 false,.val 119022051 (.dat (.str p)),OX true r'])
   (ob:=CH z (r0 tx pl ck o b i j e0) [] true r'∧V.dat (.str (eR ck (some (o:Int)) none))=V.dat (.str p)∧IS z (r0 tx pl ck o b i j e0) ch opp vs u∧True) g ⟨hr,congrArg (fun x=>V.dat (.str x)) e,hi,trivial⟩ (by kernel_rfl)
 |false=>
  exact z.useX (hs:=[OY (r0 tx pl ck o b i j e0) ch opp vs u,.tst 112015038 false,.tst 115017038 false,.val 119022051 (.dat (.str p)),OX false r'])
   (ob:=CH z (r0 tx pl ck o b i j e0) [] false r'∧V.dat (.str (eR ck (some (o:Int)) none))=V.dat (.str p)∧IS z (r0 tx pl ck o b i j e0) ch opp vs u∧True) g ⟨hr,congrArg (fun x=>V.dat (.str x)) e,hi,trivial⟩ (by kernel_rfl)
end
end
section
theorem hL {p:Nm}:∀ {vs:List V} {ss:List Nm},eI vs=some ss→eI (vs++[.dat (.str p)])=some (ss++[p])
 | [],_,h=>by cases h;rfl
 |v::vs,_,h=>by
  obtain⟨x,h1,h⟩:=aJ h
  obtain⟨r,h2,rfl⟩:=aS h
  show v.strE.bind _=_
  rw[h1]
  show(eI (vs++[.dat (.str p)])).map (x::·)=_
  rw[hL h2];rfl
theorem DO {p:Nat→Bool}:∀ {a b:Nm},(∀ c∈a,p c=true)→(a++b).takeWhile p=a++b.takeWhile p∧(a++b).dropWhile p=b.dropWhile p
 | [],_,_=>⟨rfl,rfl⟩
 |c::a,b,h=>by
  have z:=DO (a:=a) (b:=b) fun x m=>h x (.tail _ m)
  rw[List.cons_append,List.takeWhile_cons_of_pos (h c (.head _)),List.dropWhile_cons_of_pos (h c (.head _)),z.1]
  exact⟨rfl,z.2⟩
theorem yL {p:Nat→Bool}:∀ {a b:Nm},(a.takeWhile p).length<a.length→(a++b).takeWhile p=a.takeWhile p∧(a++b).dropWhile p=a.drop (a.takeWhile p).length++b
 | [],_,h=>absurd h (Nat.lt_irrefl _)
 |c::a,b,h=>by
  cases q:p c with
  |false=>
   have q':¬ p c=true:=by rw[q];exact Bool.false_ne_true
   rw[List.cons_append,List.takeWhile_cons_of_neg q',List.dropWhile_cons_of_neg q',List.takeWhile_cons_of_neg q']
   exact⟨rfl,rfl⟩
  |true=>
   rw[List.takeWhile_cons_of_pos q]at h
   have z:=yL (a:=a) (b:=b) (Nat.lt_of_succ_lt_succ h)
   rw[List.cons_append,List.takeWhile_cons_of_pos q,List.dropWhile_cons_of_pos q,List.takeWhile_cons_of_pos q,z.1]
   exact⟨rfl,z.2⟩
theorem DP {p:Nat→Bool}:∀ {a:Nm},¬ (a.takeWhile p).length<a.length→(∀ c∈a,p c=true)∧a.takeWhile p=a
 | [],_=>⟨nofun,rfl⟩
 |c::a,h=>by
  cases q:p c with
  |false=>rw[List.takeWhile_cons_of_neg (by rw[q];exact Bool.false_ne_true)]at h;exact absurd (Nat.succ_pos _) h
  |true=>
   rw[List.takeWhile_cons_of_pos q]at h ⊢
   have z:=DP fun l=>h (Nat.succ_lt_succ l)
   exact⟨fun x m=>(List.mem_cons.mp m).elim (fun e=>e▸q) (z.1 x),congrArg (c::·) z.2⟩
theorem IG {α:Type}(xs:List α){a b:Nat}(h1:a≤xs.length)(h2:b≤xs.length):eR xs (some (a:Int)) (some (b:Int))=(xs.drop a).take (b-a):=by
 show(xs.drop (mn a xs.length)).take (mn b xs.length-mn a xs.length)=_
 rw[lF,lF,Nat.min_eq_left h1,Nat.min_eq_left h2]
theorem tH {α:Type}(xs:List α){a:Nat}(h1:a≤xs.length):eR xs (some (a:Int)) none=xs.drop a:=by
 show(xs.drop (mn a xs.length)).take (xs.length-mn a xs.length)=_
 rw[lF,Nat.min_eq_left h1]
 exact List.take_of_length_le (Nat.le_of_eq List.length_drop)
structure Ud (z:bS) (T:Nm) (x:Bool) (E:Nat) (r:Stm) (ch:D) (opp:Bool) (vs:List V) (ss:List Nm) (eo:List (Nm×V)) (s l:Nm):Prop where
 h:∃ m r' vs' y ss',Bl z.c Ap.names 3 UF oW.t oW.b 7 m (UL r ch opp vs eo) .next (UL r' ch opp vs' (eN y))∧eI vs'=some ss'∧ss'.flatten=ss.flatten++s∧At' T x E r' [] l
section
variable {z:bS}{ch:D}{opp:Bool}{tst:Nat→Bool}{T:Nm}{x:Bool}{E:Nat}
theorem At'.skip {r:Stm}{ms l:Nm}(a:At' T x E r ms l){u:Nat}(h:r.off+u≤r.chunk.length):At' T x E ⟨r.text,r.place,r.chunk,r.off+u,r.buf,r.ln,r.cl,r.er⟩ [] (l.drop u):=by
 have e:l.drop u=r.chunk.drop (r.off+u)++aY r.rest:=by
  rw[a.eq,List.drop_append_of_le_length (by rw[List.length_drop];omega),List.drop_drop]
 refine⟨⟨a.ok.pl,a.ok.len,a.ok.sg,a.ok.buf,h,a.ok.chk,a.ok.er⟩,by rw[List.length_drop];exact Nat.le_trans (Nat.sub_le _ _) a.len,e,.nil,fun y=>(a.st y).elim fun p w=>⟨p,?_,w.2⟩,fun _ q=>absurd rfl q,a.er⟩
 have hl:l=(r.chunk.drop r.off).take u++l.drop u:=by
  conv=>lhs;rw[← List.take_append_drop u l]
  rw[a.eq,List.take_append_of_le_length (by rw[List.length_drop];omega)]
 rw[w.1]
 conv=>lhs;rw[hl]
 show _=p++(r.chunk.take (r.off+u)++l.drop u)
 rw[List.take_add,List.append_assoc]
theorem At'.more {r r':Stm}{ms l:Nm}(a:At' T x E r ms l)(R:Rd z [] r r'):At' T x E r' [] (aY r.rest):=by
 have hl:(aY r.rest).length≤15000:=by
  have:=a.len
  rw[a.eq,List.length_append]at this
  lia
 refine⟨R.ok,hl,by rw[R.off];exact R.eq.symm,.nil,fun y=>(a.st y).elim fun p w=>⟨p++r.chunk,?_,?_⟩,fun _ q=>absurd rfl q,R.er.trans a.er⟩
 ·rw[w.1,R.off,a.eq,List.append_assoc]
  show _=p++(r.chunk++aY r.rest)
  rw[← List.append_assoc (r.chunk.take r.off),List.take_append_drop]
 ·rw[R.pos,w.2,fT]
theorem At'.done {r:Stm}{ms l:Nm}(a:At' T x E r ms l)(h:r.rest=[]):At' T x E (r.mt 0 Option.none) [] []:=by
 have hb:r.buf=Option.none:=by
  have:=(List.append_eq_nil_iff.mp (show r.buf.toList++_=[]from h)).1
  cases q:r.buf with
  |none=>rfl
  |some k=>rw[q]at this;cases this
 have hr:(r.mt 0 Option.none).rest=[]:=by
  have:r.rest=(r.mt 0 Option.none).rest:=by unfold Stm.rest;rw[hb];rfl
  rw[← this];exact h
 have h1:=a.ok.er
 have h2:=a.er
 rw[h]at h1 h2
 refine⟨⟨a.ok.pl,a.ok.len,a.ok.sg,.inl rfl,Nat.le_refl _,Nat.zero_le _,by rw[hr];exact h1⟩,Nat.zero_le _,by rw[hr];rfl,.nil,fun y=>(a.st y).elim fun p w=>⟨p++r.chunk,?_,by rw[fT,← w.2]⟩,fun _ q=>absurd rfl q,by rw[hr];exact h2⟩
 have e:l=r.chunk.drop r.off:=by rw[a.eq,h];exact List.append_nil _
 rw[w.1,e,List.take_append_drop]
 exact(List.append_nil _).symm
theorem DQ (T':oK ch tst):∀ (n:Nat) {r:Stm} {ms l:Nm} {vs:List V} {ss:List Nm} {eo:List (Nm×V)},r.rest.length<n→At' T x E r ms l→eI vs=some ss→vs.length+n≤20000→(eo=[]∨∃ v,eo=[(yK,v)])→
  Ud z T x E r ch opp vs ss eo (l.takeWhile (cW tst opp)) (l.dropWhile (cW tst opp))
 |0,_,_,_,_,_,_,hn,_,_,_,_=>absurd hn (Nat.not_lt_zero _)
 |n+1,⟨tx,pl,ck,o,b,i,j,e0⟩,ms,l,vs,ss,eo,hn,a,hs,hv,ho=>by
  have hi:IS z (r0 tx pl ck o b i j e0) ch opp vs ((ck.drop o).takeWhile (cW tst opp)).length:=DN T' a.ok
  have he:l=ck.drop o++aY (r0 tx pl ck o b i j e0).rest:=a.eq
  have ol:o≤ck.length:=a.ok.off
  have hv':vs.length≤20000:=by lia
  have hlen:(ck.drop o).length=ck.length-o:=List.length_drop
  have lst:∀ p:Nm,(ss++[p]).flatten=ss.flatten++p:=fun p=>by rw[List.flatten_append,List.flatten_singleton]
  have f1:=Qf (z:=z) (r:=r0 tx pl ck o b i j e0) (ch:=ch) (opp:=opp) (vs:=vs) ho
  by_cases q:((ck.drop o).takeWhile (cW tst opp)).length < (ck.drop o).length
  ·have w:=yL (b:=aY (r0 tx pl ck o b i j e0).rest) q
   have hp:(ck.drop o).takeWhile (cW tst opp)=(ck.drop o).take ((ck.drop o).takeWhile (cW tst opp)).length:=List.prefix_iff_eq_take.mp (List.takeWhile_prefix _)
   have w2:l.dropWhile (cW tst opp)=l.drop ((ck.drop o).takeWhile (cW tst opp)).length:=by
    rw[he,w.2,List.drop_append_of_le_length (Nat.le_of_lt q)]
   rw[w2,show l.takeWhile (cW tst opp)=(ck.drop o).takeWhile (cW tst opp)from(congrArg _ he).trans w.1]
   rw[hlen]at q
   generalize (ck.drop o).takeWhile (cW tst opp)=u at *
   cases u with
   |nil=>exact⟨1,_,vs,o,ss,.out q8 (cI f1 (IF hi (Nat.ne_of_lt (by have:0<ck.length-o:=q;lia)))) rfl,hs,(List.append_nil _).symm,a.none⟩
   |cons c u=>
    have hl:o+(c::u).length<ck.length:=by lia
    exact⟨1,_,_,o+(c::u).length,_,.out q8 (cI f1 (Mf hi (Nat.succ_pos _) hl a.ok.chk hv' (p:=c::u) (by rw[IG _ ol (Nat.le_of_lt hl),Nat.add_sub_cancel_left];exact hp.symm))) rfl,hL hs,lst _,a.skip (Nat.le_of_lt hl)⟩
  ·have w:=DP q
   have w2:=DO (b:=aY (r0 tx pl ck o b i j e0).rest) w.1
   rw[w.2,hlen]at hi
   rw[he,w2.1,w2.2]
   have turn:∀ (k:Bool) {r':Stm},CH z (r0 tx pl ck o b i j e0) [] k r'→∃ e,RX z.c Ap.names 3 UF (UL (r0 tx pl ck o b i j e0) ch opp vs eo) oW.b (bif k then .next else .brk) (UL r' ch opp (vs++[.dat (.str (ck.drop o))]) (eN e)):=fun k r' hr=>by
    rcases Nat.lt_or_ge 0 (ck.length-o)with h0|h0
    ·exact⟨_,cI f1 (Us hi h0 (by lia) a.ok.chk hv' (tH ck ol) k hr)⟩
    ·have h1:o=ck.length:=by lia
     rw[show ck.length-o=0 by lia]at hi
     exact⟨_,cI f1 (Qg hi h1 a.ok.chk hv' (tH ck ol) k hr)⟩
   by_cases e:(r0 tx pl ck o b i j e0).rest=[]
   ·have hr:=tD (z:=z) a.ok e
    obtain⟨y,t⟩:=turn false hr
    have ad:=a.done e
    rw[e]
    exact⟨1,_,_,y,_,.out q8 t rfl,hL hs,by rw[lst,show aY []=[]from rfl,List.takeWhile_nil,List.append_nil],ad⟩
   ·obtain⟨r',R⟩:=kY (z:=z) a.ok (.inl ⟨rfl,rfl⟩) nofun (by decide) nofun e
    obtain⟨y,t⟩:=turn true R.call
    have hless:=R.less
    obtain⟨m,r2,vs2,x2,ss2,g1,g2,g3,g4⟩:=(DQ T' n (r:=r') (ms:=[]) (l:=aY (r0 tx pl ck o b i j e0).rest) (vs:=vs++[.dat (.str (ck.drop o))]) (eo:=eN y) (by lia) (a.more R) (hL hs) (by rw[List.length_append];show vs.length+1+n≤_;lia) (.inr ⟨_,rfl⟩)).h
    exact⟨_+1,r2,vs2,x2,ss2,.turn q8 t rfl .id g1,g2,by rw[g3,lst,List.append_assoc],g4⟩
theorem wD (p:Nat→Bool):∀ l:Nm,(l.takeWhile p).length≤l.length
 | []=>Nat.le_refl _
 |c::l=>by
  cases q:p c with
  |true=>rw[List.takeWhile_cons_of_pos q];exact Nat.succ_le_succ (wD p l)
  |false=>rw[List.takeWhile_cons_of_neg (by rw[q];exact Bool.false_ne_true)];exact Nat.zero_le _
theorem DS {r:Stm}(h:r.Ok):r.rest.length≤10241:=by
 unfold Stm.rest
 rw[List.length_append,List.length_drop]
 have:=h.len
 rcases h.buf with e|e <;>rw[e]<;>simp <;>lia
noncomputable abbrev Ut (z:bS)(r:Stm)(as:List V)(s:Nm)(r':Stm):Prop:=CallOk z.c 4 156 (.ref 0::as) (SL r) (.dat (.str s)) (SL r')
theorem dG {r:Stm}{ms l:Nm}(T':oK ch tst)(a:At' T x E r ms l)(as:List V)(ha:(as=[.dat ch]∧opp=false)∨as=[.dat ch,.dat (.boo opp)]):∃ r',Ut z r as (l.takeWhile (cW tst opp)) r'∧At' T x E r' [] (l.dropWhile (cW tst opp)):=by
 obtain⟨m,r',vs,y,ss,g1,g2,g3,g4⟩:=(DQ (z:=z) (opp:=opp) T' (r.rest.length+1) (vs:=[]) (ss:=[]) (eo:=[]) (Nat.lt_succ_self _) a rfl (by have:=DS a.ok;show 0+_≤_;lia) (.inl rfl)).h
 have g3:ss.flatten=l.takeWhile (cW tst opp):=g3
 have hs:RS z.c Ap.names 3 UF (UL r ch opp [] []) oW.s .next (UL r' ch opp vs (eN y)):=vI g1
 have hj:xN z.c 3 (UL r' ch opp vs (eN y)) (.str [] .join) [.ref 6] (.dat (.str ss.flatten)) (UL r' ch opp vs (eN y)):=qL rfl g2 (li (by rw[g3];have:=wD (cW tst opp) l;have:=a.len;lia))
 rw[g3]at hj
 generalize l.takeWhile (cW tst opp)=s at *
 refine⟨r',?_,g4⟩
 rcases ha with⟨rfl,rfl⟩|rfl
 ·exact z.use (hs:=[.stm 108 .next (UL r' ch false vs (eN y)),.bm (.dat (.str s)) (UL r' ch false vs (eN y))]) (o:=.fz [] []) (g:=true) rfl (an hj (an hs trivial)) (by kernel_rfl)
 ·exact z.use (hs:=[.stm 108 .next (UL r' ch opp vs (eN y)),.bm (.dat (.str s)) (UL r' ch opp vs (eN y))]) (o:=.fz [] []) (g:=true) rfl (an hj (an hs trivial)) (by kernel_rfl)
end
end
section
noncomputable def wE:Nm:=[100,97,116,97,118,97,114,115]
noncomputable def d6:Nm:=[116,121,112,101]
noncomputable def fE:Nm:=[110,97,109,101]
noncomputable def wH:Nm:=[112,117,98,108,105,99,73,100]
noncomputable def wI:Nm:=[115,121,115,116,101,109,73,100]
noncomputable def AU:Nm:=[99,111,114,114,101,99,116]
noncomputable def bL:Nm:=[115,101,108,102,67,108,111,115,105,110,103]
noncomputable def bB:Nm:=[115,101,108,102,67,108,111,115,105,110,103,65,99,107,110,111,119,108,101,100,103,101,100]
noncomputable def cP:Nm:=[115,116,114,101,97,109]
noncomputable def cQ:Nm:=[112,97,114,115,101,114]
noncomputable def bD:Nm:=[101,115,99,97,112,101,70,108,97,103]
noncomputable def aR:Nm:=Xp
noncomputable def dS:Nm:=[115,116,97,116,101]
noncomputable def cR:Nm:=[101,115,99,97,112,101]
noncomputable def aU:Nm:=Xs
noncomputable def cJ:Nm:=[116,111,107,101,110,81,117,101,117,101]
noncomputable def bI (c:Nat):Bool:=sA (.str [c]) [.str [9],.str [10],.str [12],.str [32],.str [13]]
noncomputable def dK (c:Nat):Bool:=match cA with
 |.tup ds=>sA (.str [c]) ds
 |_=>false
noncomputable def hM (a b c:Nat):Bool:=sA (.str [c]) [.str [a],.str [b]]
noncomputable def iV (a b d c:Nat):Bool:=sA (.str [c]) [.str [a],.str [b],.str [d]]
noncomputable def Qh (c:Nat):Bool:=Txt.contains (st [62]) (st [c])
theorem IH:oK b7 bI:=fun z n c hp=>((sC z.c n hp .isin (.dat (.str [c])) (.dat b7)).get rfl).ok rfl
theorem DT:oK cA dK:=fun z n c hp=>((sC z.c n hp .isin (.dat (.str [c])) (.dat cA)).get rfl).ok rfl
theorem Mg (a b:Nat):oK (.tup [.str [a],.str [b]]) (hM a b):=fun z n c hp=>((sC z.c n hp .isin (.dat (.str [c])) (.dat (.tup [.str [a],.str [b]]))).get rfl).ok rfl
theorem nL (a b d:Nat):oK (.tup [.str [a],.str [b],.str [d]]) (iV a b d):=fun z n c hp=>((sC z.c n hp .isin (.dat (.str [c])) (.dat (.tup [.str [a],.str [b],.str [d]]))).get rfl).ok rfl
theorem II:oK (.str [62]) Qh:=fun z n c hp=>((sC z.c n hp .isin (.dat (.str [c])) (.dat (.str [62]))).get rfl).ok rfl
inductive CT where
 |dead (d:D)
 |com (s:Nm)
 |doc (name:Nm)
 |tag (b:Bool) (name:Nm) (as:List (Nm×Nm)) (sc:Bool)
inductive Tok where
 |err (w:Nm)|erv (w:Nm) (d:D)|chr1 (x:Nm)|chr2 (x:Nm)|com (s:Nm)|doc (name:Nm)|stag (name:Nm) (as:List (Nm×Nm)) (sc:Bool)|etag (name:Nm)
noncomputable def Mh (s:Nm):List (Nm×D):=[(d6,.int 6),(dF,.str s)]
noncomputable def Mi (n:Nm):List (Nm×D):=[(d6,.int 0),(fE,.str n),(wH,.non),(wI,.non),(AU,.boo true)]
noncomputable def tW (k:Int)(x:Nm):D:=.dct [(d6,.int k),(dF,.str x)]
noncomputable def OZ (as:List (Nm×Nm)):List (Nm×D):=as.map fun a=>(a.1,.str a.2)
noncomputable def Tok.toD:Tok→D
 |.err w=>tW 7 w
 |.erv w d=>.dct [(d6,.int 7),(dF,.str w),(wE,d)]
 |.chr1 x=>tW 1 x
 |.chr2 x=>tW 2 x
 |.com s=>.dct (Mh s)
 |.doc n=>.dct (Mi n)
 |.stag n as sc=>.dct [(d6,.int 3),(fE,.str n),(dF,.dct (OZ as)),(bL,.boo sc),(bB,.boo false)]
 |.etag n=>.dct [(d6,.int 4),(fE,.str n),(dF,.lst []),(bL,.boo false)]
noncomputable def WR:CT→V
 |.dead d=>.dat d
 |_=>.ref 8
noncomputable def Tn (es:List (Nm×D)):O:=.ns (es.map fun x=>(x.1,.dat x.2))
noncomputable def WT:List (Nm×Nm)→Nat→List V
 | [],_=>[]
 |_::r,k=>.ref k::WT r (k+1)
noncomputable def XJ (as:List (Nm×Nm)):List O:=as.map fun a=>.lst [.dat (.str a.1),.dat (.str a.2)]
noncomputable def Uu:CT→List O
 |.dead _=>[]
 |.com s=>[Tn (Mh s)]
 |.doc n=>[Tn (Mi n)]
 |.tag b n as sc=>.ns ((match b with
  |true=>[(d6,.dat (.int 3)),(fE,.dat (.str n)),(dF,.ref 9),(bL,.dat (.boo sc)),(bB,.dat (.boo false))]
  |false=>[(d6,.dat (.int 4)),(fE,.dat (.str n)),(dF,.ref 9),(bL,.dat (.boo sc))]))::.lst (WT as 10)::XJ as
noncomputable def TL (r:Stm)(st:Nat)(ct:CT)(q:List Tok):List O:=
 [.ins 762 1,.ns [(cP,.ref 2),(cQ,.dat .non),(bD,.dat (.boo false)),(aR,.dat (.lst [])),(dS,.mth st 0),(cR,.dat (.boo false)),(aU,WR ct),(cJ,.ref 6)],
  .ins 166 3,strE r 2 4 7,.ins 73 5,.ns [(aX,.dat (.str r.text)),(dR,.dat (.int r.place))],.lst (q.map fun t=>.dat t.toD),.dls (qZ r.er)]++Uu ct
noncomputable def CT.Small:CT→Prop
 |.dead _=>True
 |.com s=>s.length≤1000
 |.doc n=>n.length≤1000
 |.tag _ n as _=>n.length≤1000∧∀ a∈as,a.1.length≤1000∧a.2.length≤1000
structure Res where
 more:Bool
 st:Nat
 ct:CT
 out:List Tok
 rest:Nm
 ex:Bool
noncomputable def gone (ct:CT):List O:=(Uu ct).map fun _=>.gone
inductive ExR (z:bS) (T:Nm) (x:Bool) (E:Nat) (st:Nat) (ct:CT) (r:Stm) (res:Res):Prop
 |mk (r1:Stm) (g:List O) (hg:g=[]∨g=gone ct) (h:CallOk z.c 8 st [.ref 0] (TL r st ct []) (.dat (.boo res.more)) (TL r1 res.st res.ct res.out++g)) (a:At' T (x&&res.ex) E r1 [] res.rest)
noncomputable def Exs (z:bS)(T:Nm)(x:Bool)(E:Nat)(st:Nat)(ct:CT)(r:Stm):Option Res→Prop
 |none=>True
 |some res=>ExR z T x E st ct r res
section
variable {z:bS}{T:Nm}{x:Bool}{E:Nat}{st:Nat}{ct:CT}{r:Stm}
theorem Exs.mk {res:Res}(r1:Stm)(g:List O)(hg:g=[]∨g=gone ct)(h:CallOk z.c 8 st [.ref 0] (TL r st ct []) (.dat (.boo res.more)) (TL r1 res.st res.ct res.out++g))(a:At' T (x&&res.ex) E r1 [] res.rest):Exs z T x E st ct r (some res):=ExR.mk r1 g hg h a
theorem bC {b:Bool}{y w:Option Res}(h1:b=true→Exs z T x E st ct r y)(h2:b=false→Exs z T x E st ct r w):Exs z T x E st ct r (bif b then y else w):=match b,h1,h2 with
 |true,h,_=>h rfl
 |false,_,h=>h rfl
theorem At'.fin {l:Nm}(a:At' T false E r [] l):At' T (x&&false) E r [] l:=by rw[Bool.and_false];exact a
end
noncomputable def oL (ct:CT)(l:Nm)(fe:Nm→Nat→Nm→Option Res)(f0:Nm→Bool→Nat→Nm→Option Res)(f1:Nm→Nm→Nm→Bool→Nat→Nm→Option Res)(f2:Nm→Nm→Nm→Nm→Nm→Bool→Nat→Nm→Option Res):Option Res:=match l with
 | []=>none
 |c::l=>match ct with
  |.tag b n as sc=>match b with
   |true=>match as with
    | []=>f0 n sc c l
    |p::as=>match as with
     | []=>f1 n p.1 p.2 sc c l
     |q::as=>match as with
      | []=>f2 n p.1 p.2 q.1 q.2 sc c l
      |_::_=>none
   |false=>match as with
    | []=>match sc with
     |true=>none
     |false=>fe n c l
    |_::_=>none
  |_=>none
noncomputable def AV (ct:CT)(l:Nm)(f:Nm→Nat→Nm→Option Res):Option Res:=match l with
 | []=>none
 |c::l=>match ct with
  |.com s=>f s c l
  |_=>none
noncomputable def DU (ct:CT)(l:Nm)(f:Nm→Nat→Nm→Option Res):Option Res:=match l with
 | []=>none
 |c::l=>match ct with
  |.doc s=>f s c l
  |_=>none
noncomputable def yM (ct:CT)(l:Nm)(f:D→Nat→Nm→Option Res):Option Res:=match l with
 | []=>none
 |c::l=>match ct with
  |.dead s=>f s c l
  |_=>none
section
variable {z:bS}{T:Nm}{x:Bool}{E:Nat}{st:Nat}{ct:CT}{r:Stm}{ms l:Nm}
noncomputable abbrev Bh (z:bS)(T:Nm)(x:Bool)(E:Nat)(r:Stm)(ms:Nm)(c:Nat)(l:Nm)(P:Prop):Prop:=At' T x E r ms (c::l)→∀ r1,aQ z r (.dat (.str [c])) r1→At' T x E r1 (c::ms) l→P
theorem bh {c:Nat}{P:Prop}(a:At' T x E r ms (c::l))(h:Bh z T x E r ms c l P):P:=(aB (z:=z) a).elim fun r1 q=>h a r1 q.1 q.2
theorem jX {f:Nm→Nat→Nm→Option Res}(sm:ct.Small)(a:At' T x E r ms l)(h:∀ s c l,s.length≤1000→Bh z T x E r ms c l (Exs z T x E st (.com s) r (f s c l))):Exs z T x E st ct r (AV ct l f):=by
 cases l with
 |nil=>exact trivial
 |cons c l=>cases ct with
  |com s=>exact bh a (h s c l sm)
  |_=>exact trivial
theorem lW {f:Nm→Nat→Nm→Option Res}(sm:ct.Small)(a:At' T x E r ms l)(h:∀ s c l,s.length≤1000→Bh z T x E r ms c l (Exs z T x E st (.doc s) r (f s c l))):Exs z T x E st ct r (DU ct l f):=by
 cases l with
 |nil=>exact trivial
 |cons c l=>cases ct with
  |doc s=>exact bh a (h s c l sm)
  |_=>exact trivial
theorem nM {f:D→Nat→Nm→Option Res}(_:ct.Small)(a:At' T x E r ms l)(h:∀ s c l,Bh z T x E r ms c l (Exs z T x E st (.dead s) r (f s c l))):Exs z T x E st ct r (yM ct l f):=by
 cases l with
 |nil=>exact trivial
 |cons c l=>cases ct with
  |dead s=>exact bh a (h s c l)
  |_=>exact trivial
theorem eB {fe:Nm→Nat→Nm→Option Res}{f0:Nm→Bool→Nat→Nm→Option Res}{f1:Nm→Nm→Nm→Bool→Nat→Nm→Option Res}{f2:Nm→Nm→Nm→Nm→Nm→Bool→Nat→Nm→Option Res}(sm:ct.Small)(a:At' T x E r ms l)
  (he:∀ n c l,n.length≤1000→Bh z T x E r ms c l (Exs z T x E st (.tag false n [] false) r (fe n c l)))(h0:∀ n sc c l,n.length≤1000→Bh z T x E r ms c l (Exs z T x E st (.tag true n [] sc) r (f0 n sc c l)))
  (h1:∀ n y v sc c l,n.length≤1000→y.length≤1000→v.length≤1000→Bh z T x E r ms c l (Exs z T x E st (.tag true n [(y,v)] sc) r (f1 n y v sc c l)))
  (h2:∀ n y v u w sc c l,n.length≤1000→y.length≤1000→v.length≤1000→u.length≤1000→w.length≤1000→Bh z T x E r ms c l (Exs z T x E st (.tag true n [(y,v),(u,w)] sc) r (f2 n y v u w sc c l))):Exs z T x E st ct r (oL ct l fe f0 f1 f2):=by
 cases l with
 |nil=>exact trivial
 |cons c l=>cases ct with
  |tag b n as sc=>
   have hn:n.length≤1000:=sm.1
   have ha:=sm.2
   cases b with
   |true=>cases as with
    |nil=>exact bh a (h0 n sc c l hn)
    |cons p as=>
     have hp:=ha _ (.head _)
     cases as with
     |nil=>exact bh a (h1 n p.1 p.2 sc c l hn hp.1 hp.2)
     |cons q as=>
      have hq:=ha _ (.tail _ (.head _))
      cases as with
      |nil=>exact bh a (h2 n p.1 p.2 q.1 q.2 sc c l hn hp.1 hp.2 hq.1 hq.2)
      |cons _ _=>exact trivial
   |false=>cases as with
    |nil=>cases sc with
     |true=>exact trivial
     |false=>exact bh a (he n c l hn)
    |cons _ _=>exact trivial
  |_=>exact trivial
end
theorem aP {a b:Nat}(h:nb [a] [b]=true):b=a:=(List.cons.inj (bO h)).1.symm
theorem kZ {x y:Nm}{a b:Nat}(h:x.length≤a)(k:y.length≤b):(x++y).length≤a+b:=by rw[List.length_append];exact Nat.add_le_add h k
theorem Qi {x:Nm}{a:Nat}(h:x.length≤a)(k:Nat.ble a lim=true):Nat.ble x.length lim=true:=Nat.ble_eq_true_of_le (Nat.le_trans h (Nat.le_of_ble_eq_true k))
theorem d7 {x y:Nm}{a b:Nat}(h:x.length≤a)(h':y.length≤b)(k:Nat.ble (a+b) lim=true):Nat.ble (x.length+y.length) lim=true:=Nat.ble_eq_true_of_le (Nat.le_trans (Nat.add_le_add h h') (Nat.le_of_ble_eq_true k))
theorem eM {T:Nm}{x:Bool}{E:Nat}{r:Stm}{ms l:Nm}(a:At' T x E r ms l){p:Nat→Bool}:(l.takeWhile p).length≤15000:=Nat.le_trans (wD p l) a.len
noncomputable abbrev aF (r:Stm)(v:V):Hi:=.cal 133 4 [2,3,4,5,7] v (SL r)
noncomputable abbrev c7 (r:Stm):Hi:=.cal 163 1 [2,3,4,5,7] (.dat .non) (SL r)
noncomputable abbrev oM (r:Stm)(s:Nm):Hi:=.cal 156 4 [2,3,4,5,7] (.dat (.str s)) (SL r)
noncomputable def Mj (c:Nat):Nat:=bif !uO [c] [65]then(bif !uO [90] [c]then c+32 else c)else c
noncomputable def aO (s:Nm):Nm:=s.map Mj
theorem DV {s:Nm}{a:Nat}(h:s.length≤a):(aO s).length≤a:=Nat.le_trans (Nat.le_of_eq (List.length_map ..)) h
noncomputable def AW:Fn:=kS iU [7] []
structure ComI where
 e:Expr
 t:Expr
 i:Expr
 s:Scope
 p:Pos
noncomputable def Uv:Expr→ComI
 |.ListComp e [⟨t,i,[],0⟩] s p=>⟨e,t,i,s,p⟩
 |_=>⟨.Constant .none 0 fC,.Constant .none 0 fC,.Constant .none 0 fC,⟨.function,[],false,false,[]⟩,fC⟩
noncomputable def ComI.r (f:ComI):Expr:=.ListComp f.e [⟨f.t,f.i,[],0⟩] f.s f.p
noncomputable def Uw:Stmt→Expr
 |.Return (some (.Call _ [a] _ _)) _=>a
 |_=>.Constant .none 0 fC
noncomputable def q9:ComI:=Uv (Uw (fG AW.body 0))
noncomputable def LL (s:Nm)(o:List V)(eo:List (Nm×V)):List O:=[.fr [(aX,.dat (.str s))],.lst o,.fr eo]
noncomputable abbrev rA (s:Nm):List V:=s.map fun c=>.dat (.str [Mj c])
section
variable (z:bS){s:Nm}
noncomputable abbrev LF:Fx:=⟨2,[],false⟩
theorem DW {o:List V}{c:Nat}:RE z.c (fB AW.names q9.s.names) 0 LF (LL s o [(Fg,.dat (.str [c]))]) q9.e (.dat (.str [Mj c])) (LL s o [(Fg,.dat (.str [c]))]):=by
 unfold Mj
 cases h1: !uO [c] [65]with
 |false=>exact z.useE (hs:=[.tst 11040043 false]) (g:=cg [(false,!uO [c] [65])]) (aA h1 aE) trivial (by kernel_rfl)
 |true=>cases h2: !uO [90] [c]with
  |false=>exact z.useE (hs:=[.tst 11040043 true,.tst 11040055 false]) (g:=cg [(false,!uO [90] [c]),(true,!uO [c] [65])]) (aA h2 (aA h1 aE)) trivial (by kernel_rfl)
  |true=>
   have hc:c≤90:=Nat.le_of_not_lt fun q=>by
    have:uO [90] [c]=true:=by rw[← qH];exact decide_eq_true (List.Lex.rel q)
    rw[this]at h2;cases h2
   exact z.useE (hs:=[.tst 11040043 true,.tst 11040055 true]) (g:=cg [(true,Nat.ble (c+32) 1114111),(true,!uO [90] [c]),(true,!uO [c] [65])]) (aA (Nat.ble_eq_true_of_le (by lia)) (aA h2 (aA h1 aE))) trivial (by kernel_rfl)
theorem tJ:∀ (t:Nm) (k:Nat) (o:List V) (eo:List (Nm×V)),s.drop k=t→o.length=k→s.length≤20000→(eo=[]∨∃ v,eo=[(Fg,v)])→∃ eo',sQ z.c (fB AW.names q9.s.names) 0 LF q9.t [] q9.e 1 (.dat (.str s)) (t.length+1) k (LL s o eo) (LL s (o++rA t) eo')
 | [],k,o,eo,h,_,_,_=>⟨eo,by rw[show rA []=[]from rfl,List.append_nil];exact .stop rfl (by rw[iD,List.getElem?_map,List.getElem?_eq_none (List.drop_eq_nil_iff.mp h)];rfl)⟩
 |c::t,k,o,eo,h,ho,hl,he=>by
  have hk:s[k]? =some c:=by have:=congrArg (·[0]?) h;simpa using this
  have ht:s.drop (k+1)=t:=by rw[← List.drop_drop,h];rfl
  have lt:=(List.getElem?_eq_some_iff.mp hk).1
  obtain⟨eo',q⟩:=tJ t (k+1) (o++[.dat (.str [Mj c])]) [(Fg,.dat (.str [c]))] ht (by rw[List.length_append,ho];rfl) hl (.inr ⟨_,rfl⟩)
  rw[List.append_assoc]at q
  have g:(iD s)[k]? =some (.dat (.str [c])):=by rw[iD,List.getElem?_map,hk];rfl
  have b:RG z.c (fB AW.names q9.s.names) 0 LF (LL s o eo) q9.t (.dat (.str [c])) (LL s o [(Fg,.dat (.str [c]))]):=by
   rcases he with rfl|⟨v,rfl⟩
   ·exact b0 (by kernel_rfl) (by kernel_rfl)
   ·exact b0 (by kernel_rfl) (by kernel_rfl)
  exact⟨eo',.turn rfl g b .nil (DW z) rfl (li (by lia)) q⟩
theorem cK {n:Nm}(h:n.length≤15000):CallOk z.c 1 42 [.dat (.str n)] [] (.dat (.str (aO n))) []:=by
 obtain⟨eo,q⟩:=tJ z n 0 [] [] rfl rfl (Nat.le_trans h (by decide)) (.inl rfl)
 have h1:RE z.c AW.names 0 ⟨0,[],true⟩ [.fr [(aX,.dat (.str n))]] q9.i (.dat (.str n)) [.fr [(aX,.dat (.str n))]]:=z.useE (hs:=[]) (g:=true) rfl trivial (by kernel_rfl)
 have h2:RE z.c AW.names 0 ⟨0,[],true⟩ [.fr [(aX,.dat (.str n))]] q9.r (.ref 1) [.fr [(aX,.dat (.str n))],.lst (rA n),.gone]:=lU (jP (by kernel_rfl)) h1 rfl rfl q rfl
 have hs:∀ n:Nm,eI (rA n)=some (n.map fun c=>[Mj c]):=fun n=>by
  induction n with
  |nil=>rfl
  |cons c n ih=>show((eI (rA n)).map _)=_;rw[ih];rfl
 have hf:∀ n:Nm,(n.map fun c=>[Mj c]).flatten=aO n:=fun n=>by
  induction n with
  |nil=>rfl
  |cons c n ih=>rw[List.map_cons,List.flatten_cons,ih];rfl
 have hj:xN z.c 0 [.fr [(aX,.dat (.str n))],.lst (rA n),.gone] (.str [] .join) [.ref 1] (.dat (.str (aO n))) [.fr [(aX,.dat (.str n))],.lst (rA n),.gone]:=hf n▸qL rfl (hs n) (li (by rw[hf];exact Nat.le_trans (DV h) (by decide)))
 exact z.use (hs:=[.exp 11019077 (.ref 1) [.fr [(aX,.dat (.str n))],.lst (rA n),.gone],.bm (.dat (.str (aO n))) [.fr [(aX,.dat (.str n))],.lst (rA n),.gone]]) (o:=.fz [] []) (g:=true) rfl (an hj (an h2 trivial)) (by kernel_rfl)
end
end
section
noncomputable def DX (ct:CT)(l:Nm):Option Res:=AV ct l fun s c0 l1=>bif nb [c0] [45]then some ⟨true,619,.com s,[],l1,true⟩else bif nb [c0] [0]then none else bif nb [c0] [62]then none else some ⟨true,626,.com (s++[c0]),[],l1,true⟩
theorem Qj {z:bS}{T:Nm}{e:Bool}{E:Nat}{r:Stm}{ms l:Nm}{ct:CT}(sm:ct.Small)(a:At' T e E r ms l):Exs z T e E 612 ct r (DX ct l):=jX sm a fun s c0 l1 hs a r1 h1 a1=>by
 refine bC (fun t0=>?_) (fun t0=>?_)
 ·obtain rfl:=aP t0
  exact .mk r1 [] (.inl rfl) (z.use (hs:=[aF r1 (.dat (.str [45]))]) (o:=.fz [] []) (g:=cg []) aE (an h1 trivial) (by kernel_rfl)) (a1.none.and true)
 ·refine bC (fun t1=>?_) (fun t1=>?_)
  ·exact trivial
  ·refine bC (fun t2=>?_) (fun t2=>?_)
   ·exact trivial
   ·exact .mk r1 [] (.inl rfl) (z.use (hs:=[aF r1 (.dat (.str [c0])),.tst 717011022 false,.tst 719013027 false,.tst 722013024 false]) (o:=.fz [] []) (g:=cg [(true,Nat.ble ((s:Nm).length+([c0]:Nm).length) lim),(false,nb [c0] [62]),(false,nb [c0] [0]),(false,nb [c0] [45])]) (aA (d7 hs (Nat.le_refl 1) rfl) (aA t2 (aA t1 (aA t0 aE)))) (an h1 trivial) (by kernel_rfl)) (a1.none.and true)
noncomputable def DY (ct:CT)(l:Nm):Option Res:=AV ct l fun s c0 l1=>bif nb [c0] [45]then some ⟨true,640,.com s,[],l1,true⟩else none
theorem Qk {z:bS}{T:Nm}{e:Bool}{E:Nat}{r:Stm}{ms l:Nm}{ct:CT}(sm:ct.Small)(a:At' T e E r ms l):Exs z T e E 619 ct r (DY ct l):=jX sm a fun s c0 l1 hs a r1 h1 a1=>by
 refine bC (fun t0=>?_) (fun t0=>?_)
 ·obtain rfl:=aP t0
  exact .mk r1 [] (.inl rfl) (z.use (hs:=[aF r1 (.dat (.str [45]))]) (o:=.fz [] []) (g:=cg []) aE (an h1 trivial) (by kernel_rfl)) (a1.none.and true)
 ·exact trivial
noncomputable def DZ (ct:CT)(l:Nm):Option Res:=AV ct l fun s c0 l1=>bif nb [c0] [45]then some ⟨true,633,.com s,[],l1,true⟩else bif nb [c0] [0]then none else some ⟨true,626,.com (s++([c0]++(l1.takeWhile (cW (hM 45 0) false)))),[],(l1.dropWhile (cW (hM 45 0) false)),true⟩
theorem Ql {z:bS}{T:Nm}{e:Bool}{E:Nat}{r:Stm}{ms l:Nm}{ct:CT}(sm:ct.Small)(a:At' T e E r ms l):Exs z T e E 626 ct r (DZ ct l):=jX sm a fun s c0 l1 hs a r1 h1 a1=>by
 refine bC (fun t0=>?_) (fun t0=>?_)
 ·obtain rfl:=aP t0
  exact .mk r1 [] (.inl rfl) (z.use (hs:=[aF r1 (.dat (.str [45]))]) (o:=.fz [] []) (g:=cg []) aE (an h1 trivial) (by kernel_rfl)) (a1.none.and true)
 ·refine bC (fun t1=>?_) (fun t1=>?_)
  ·exact trivial
  ·obtain⟨r2,h2,a2⟩:=dG (z:=z) (opp:=false) (Mg 45 0) a1 [.dat (.tup [.str [45],.str [0]])] (.inl ⟨rfl,rfl⟩)
   exact .mk r2 [] (.inl rfl) (z.use (hs:=[aF r1 (.dat (.str [c0])),.tst 757011022 false,.tst 759013027 false,oM r2 (l1.takeWhile (cW (hM 45 0) false))]) (o:=.fz [] []) (g:=cg [(true,Nat.ble ((s:Nm).length+([c0]++(l1.takeWhile (cW (hM 45 0) false)):Nm).length) lim),(true,Nat.ble (([c0]:Nm).length+((l1.takeWhile (cW (hM 45 0) false)):Nm).length) lim),(false,nb [c0] [0]),(false,nb [c0] [45])]) (aA (d7 hs (kZ (Nat.le_refl 1) (eM a1)) rfl) (aA (d7 (Nat.le_refl 1) (eM a1) rfl) (aA t1 (aA t0 aE)))) (an h2 (an h1 trivial)) (by kernel_rfl)) (a2.none.and true)
noncomputable def Da (ct:CT)(l:Nm):Option Res:=AV ct l fun s c0 l1=>bif nb [c0] [45]then some ⟨true,640,.com s,[],l1,true⟩else bif nb [c0] [0]then none else some ⟨true,626,.com (s++[45,c0]),[],l1,true⟩
theorem Qm {z:bS}{T:Nm}{e:Bool}{E:Nat}{r:Stm}{ms l:Nm}{ct:CT}(sm:ct.Small)(a:At' T e E r ms l):Exs z T e E 633 ct r (Da ct l):=jX sm a fun s c0 l1 hs a r1 h1 a1=>by
 refine bC (fun t0=>?_) (fun t0=>?_)
 ·obtain rfl:=aP t0
  exact .mk r1 [] (.inl rfl) (z.use (hs:=[aF r1 (.dat (.str [45]))]) (o:=.fz [] []) (g:=cg []) aE (an h1 trivial) (by kernel_rfl)) (a1.none.and true)
 ·refine bC (fun t1=>?_) (fun t1=>?_)
  ·exact trivial
  ·exact .mk r1 [] (.inl rfl) (z.use (hs:=[aF r1 (.dat (.str [c0])),.tst 772011022 false,.tst 774013027 false]) (o:=.fz [] []) (g:=cg [(true,Nat.ble ((s:Nm).length+([45,c0]:Nm).length) lim),(false,nb [c0] [0]),(false,nb [c0] [45])]) (aA (d7 hs (Nat.le_refl 2) rfl) (aA t1 (aA t0 aE))) (an h1 trivial) (by kernel_rfl)) (a1.none.and true)
noncomputable def Db (ct:CT)(l:Nm):Option Res:=AV ct l fun s c0 l1=>bif nb [c0] [62]then some ⟨true,304,.dead (Tok.com s).toD,[.com s],l1,true⟩else none
theorem Qn {z:bS}{T:Nm}{e:Bool}{E:Nat}{r:Stm}{ms l:Nm}{ct:CT}(sm:ct.Small)(a:At' T e E r ms l):Exs z T e E 640 ct r (Db ct l):=jX sm a fun s c0 l1 hs a r1 h1 a1=>by
 refine bC (fun t0=>?_) (fun t0=>?_)
 ·obtain rfl:=aP t0
  exact .mk r1 [.gone] (.inr rfl) (z.use (hs:=[aF r1 (.dat (.str [62]))]) (o:=.fz [8] []) (g:=cg []) aE (an h1 trivial) (by kernel_rfl)) (a1.none.and true)
 ·exact trivial
noncomputable def Dc (ct:CT)(l:Nm):Option Res:=DU ct l fun n c0 l1=>bif bI c0 then some ⟨true,661,.doc n,[],l1,true⟩else none
theorem Qo {z:bS}{T:Nm}{e:Bool}{E:Nat}{r:Stm}{ms l:Nm}{ct:CT}(sm:ct.Small)(a:At' T e E r ms l):Exs z T e E 654 ct r (Dc ct l):=lW sm a fun n c0 l1 hn a r1 h1 a1=>by
 refine bC (fun t0=>?_) (fun t0=>?_)
 ·exact .mk r1 [] (.inl rfl) (z.use (hs:=[aF r1 (.dat (.str [c0])),.tst 835011034 true]) (o:=.fz [] []) (g:=cg [(true,bI c0)]) (aA t0 aE) (an h1 trivial) (by kernel_rfl)) (a1.none.and true)
 ·exact trivial
noncomputable def Dd (ct:CT)(l:Nm):Option Res:=DU ct l fun n c0 l1=>bif bI c0 then none else bif nb [c0] [62]then none else bif nb [c0] [0]then none else some ⟨true,668,.doc [c0],[],l1,true⟩
theorem Qp {z:bS}{T:Nm}{e:Bool}{E:Nat}{r:Stm}{ms l:Nm}{ct:CT}(sm:ct.Small)(a:At' T e E r ms l):Exs z T e E 661 ct r (Dd ct l):=lW sm a fun n c0 l1 hn a r1 h1 a1=>by
 refine bC (fun t0=>?_) (fun t0=>?_)
 ·exact trivial
 ·refine bC (fun t1=>?_) (fun t1=>?_)
  ·exact trivial
  ·refine bC (fun t2=>?_) (fun t2=>?_)
   ·exact trivial
   ·exact .mk r1 [] (.inl rfl) (z.use (hs:=[aF r1 (.dat (.str [c0])),.tst 850011034 false,.tst 852013024 false,.tst 857013027 false]) (o:=.fz [] []) (g:=cg [(false,nb [c0] [0]),(false,nb [c0] [62]),(false,bI c0)]) (aA t2 (aA t1 (aA t0 aE))) (an h1 trivial) (by kernel_rfl)) (a1.none.and true)
noncomputable def De (ct:CT)(l:Nm):Option Res:=DU ct l fun n c0 l1=>bif bI c0 then some ⟨true,675,.doc (aO n),[],l1,true⟩else bif nb [c0] [62]then some ⟨true,304,.dead (Tok.doc (aO n)).toD,[.doc (aO n)],l1,true⟩else bif nb [c0] [0]then none else some ⟨true,668,.doc (n++[c0]),[],l1,true⟩
theorem Qq {z:bS}{T:Nm}{e:Bool}{E:Nat}{r:Stm}{ms l:Nm}{ct:CT}(sm:ct.Small)(a:At' T e E r ms l):Exs z T e E 668 ct r (De ct l):=lW sm a fun n c0 l1 hn a r1 h1 a1=>by
 refine bC (fun t0=>?_) (fun t0=>?_)
 ·exact .mk r1 [] (.inl rfl) (z.use (hs:=[aF r1 (.dat (.str [c0])),.tst 873011034 true,.cal 42 1 [] (.dat (.str (aO n))) []]) (o:=.fz [] []) (g:=cg [(true,bI c0)]) (ob:=CallOk z.c 1 42 [.dat (.str n)] [] (.dat (.str (aO n))) []∧aQ z r (.dat (.str [c0])) r1∧True) (aA t0 aE) ⟨cK z (Nat.le_trans hn (Nat.le_of_ble_eq_true rfl)),h1,trivial⟩ (by kernel_rfl)) (a1.none.and true)
 ·refine bC (fun t1=>?_) (fun t1=>?_)
  ·obtain rfl:=aP t1
   exact .mk r1 [.gone] (.inr rfl) (z.use (hs:=[aF r1 (.dat (.str [62])),.cal 42 1 [] (.dat (.str (aO n))) []]) (o:=.fz [8] []) (g:=cg []) (ob:=CallOk z.c 1 42 [.dat (.str n)] [] (.dat (.str (aO n))) []∧aQ z r (.dat (.str [62])) r1∧True) aE ⟨cK z (Nat.le_trans hn (Nat.le_of_ble_eq_true rfl)),h1,trivial⟩ (by kernel_rfl)) (a1.none.and true)
  ·refine bC (fun t2=>?_) (fun t2=>?_)
   ·exact trivial
   ·exact .mk r1 [] (.inl rfl) (z.use (hs:=[aF r1 (.dat (.str [c0])),.tst 873011034 false,.tst 876013024 false,.tst 880013027 false]) (o:=.fz [] []) (g:=cg [(true,Nat.ble ((n:Nm).length+([c0]:Nm).length) lim),(false,nb [c0] [0]),(false,nb [c0] [62]),(false,bI c0)]) (aA (d7 hn (Nat.le_refl 1) rfl) (aA t2 (aA t1 (aA t0 aE)))) (an h1 trivial) (by kernel_rfl)) (a1.none.and true)
end
section
noncomputable def Df (ct:CT)(l:Nm):Option Res:=oL ct l (fun n c0 l1=>bif bI c0 then none else bif nb [c0] [62]then some ⟨true,304,.dead (Tok.etag (aO n)).toD,[.etag (aO n)],l1,true⟩else bif nb [c0] [47]then none else bif nb [c0] [0]then none else some ⟨true,367,.tag false (n++[c0]) [] false,[],l1,true⟩) (fun n sc c0 l1=>bif bI c0 then some ⟨true,535,.tag true n [] sc,[],l1,true⟩else bif nb [c0] [62]then some ⟨true,304,.dead (Tok.stag (aO n) [] sc).toD,[.stag (aO n) [] sc],l1,true⟩else bif nb [c0] [47]then none else bif nb [c0] [0]then none else some ⟨true,367,.tag true (n++[c0]) [] sc,[],l1,true⟩) (fun _ _ _ _ _ _=>none) (fun _ _ _ _ _ _ _ _=>none)
theorem Qr {z:bS}{T:Nm}{e:Bool}{E:Nat}{r:Stm}{ms l:Nm}{ct:CT}(sm:ct.Small)(a:At' T e E r ms l):Exs z T e E 367 ct r (Df ct l):=eB sm a
 (fun n c0 l1 hn a r1 h1 a1=>by
  refine bC (fun t0=>?_) (fun t0=>?_)
  ·exact trivial
  ·refine bC (fun t1=>?_) (fun t1=>?_)
   ·obtain rfl:=aP t1
    exact .mk r1 [.gone,.gone] (.inr rfl) (z.use (hs:=[aF r1 (.dat (.str [62])),.cal 42 1 [] (.dat (.str (aO n))) []]) (o:=.fz [9,8] []) (g:=cg []) (ob:=CallOk z.c 1 42 [.dat (.str n)] [] (.dat (.str (aO n))) []∧aQ z r (.dat (.str [62])) r1∧True) aE ⟨cK z (Nat.le_trans hn (Nat.le_of_ble_eq_true rfl)),h1,trivial⟩ (by kernel_rfl)) (a1.none.and true)
   ·refine bC (fun t2=>?_) (fun t2=>?_)
    ·exact trivial
    ·refine bC (fun t3=>?_) (fun t3=>?_)
     ·exact trivial
     ·exact .mk r1 [] (.inl rfl) (z.use (hs:=[aF r1 (.dat (.str [c0])),.tst 386011034 false,.tst 388013024 false,.tst 393013024 false,.tst 395013027 false]) (o:=.fz [] []) (g:=cg [(true,Nat.ble ((n:Nm).length+([c0]:Nm).length) lim),(false,nb [c0] [0]),(false,nb [c0] [47]),(false,nb [c0] [62]),(false,bI c0)]) (aA (d7 hn (Nat.le_refl 1) rfl) (aA t3 (aA t2 (aA t1 (aA t0 aE))))) (an h1 trivial) (by kernel_rfl)) (a1.none.and true))
 (fun n sc c0 l1 hn a r1 h1 a1=>by
  refine bC (fun t0=>?_) (fun t0=>?_)
  ·exact .mk r1 [] (.inl rfl) (z.use (hs:=[aF r1 (.dat (.str [c0])),.tst 386011034 true]) (o:=.fz [] []) (g:=cg [(true,bI c0)]) (aA t0 aE) (an h1 trivial) (by kernel_rfl)) (a1.none.and true)
  ·refine bC (fun t1=>?_) (fun t1=>?_)
   ·obtain rfl:=aP t1
    exact .mk r1 [.gone,.gone] (.inr rfl) (z.use (hs:=[aF r1 (.dat (.str [62])),.cal 42 1 [] (.dat (.str (aO n))) []]) (o:=.fz [9,12,8] []) (g:=cg []) (ob:=CallOk z.c 1 42 [.dat (.str n)] [] (.dat (.str (aO n))) []∧aQ z r (.dat (.str [62])) r1∧True) aE ⟨cK z (Nat.le_trans hn (Nat.le_of_ble_eq_true rfl)),h1,trivial⟩ (by kernel_rfl)) (a1.none.and true)
   ·refine bC (fun t2=>?_) (fun t2=>?_)
    ·exact trivial
    ·refine bC (fun t3=>?_) (fun t3=>?_)
     ·exact trivial
     ·exact .mk r1 [] (.inl rfl) (z.use (hs:=[aF r1 (.dat (.str [c0])),.tst 386011034 false,.tst 388013024 false,.tst 393013024 false,.tst 395013027 false]) (o:=.fz [] []) (g:=cg [(true,Nat.ble ((n:Nm).length+([c0]:Nm).length) lim),(false,nb [c0] [0]),(false,nb [c0] [47]),(false,nb [c0] [62]),(false,bI c0)]) (aA (d7 hn (Nat.le_refl 1) rfl) (aA t3 (aA t2 (aA t1 (aA t0 aE))))) (an h1 trivial) (by kernel_rfl)) (a1.none.and true))
 (fun _ _ _ _ _ _ _ _ _ _ _ _ _=>trivial)
 (fun _ _ _ _ _ _ _ _ _ _ _ _ _ _ _ _ _=>trivial)
noncomputable def Dg (ct:CT)(l:Nm):Option Res:=oL ct l (fun _ _ _=>none) (fun n sc c0 l1=>bif bI c0 then none else bif dK c0 then some ⟨true,542,.tag true n [([c0],[])] sc,[],l1,true⟩else bif nb [c0] [62]then none else bif nb [c0] [47]then some ⟨true,591,.tag true n [] sc,[],l1,true⟩else none) (fun n x v sc c0 l1=>bif bI c0 then none else bif dK c0 then some ⟨true,542,.tag true n [(x,v),([c0],[])] sc,[],l1,true⟩else bif nb [c0] [62]then none else bif nb [c0] [47]then some ⟨true,591,.tag true n [(x,v)] sc,[],l1,true⟩else none) (fun n x v y w sc c0 l1=>bif nb [c0] [47]then some ⟨true,591,.tag true n [(x,v),(y,w)] sc,[],l1,true⟩else none)
theorem Qs {z:bS}{T:Nm}{e:Bool}{E:Nat}{r:Stm}{ms l:Nm}{ct:CT}(sm:ct.Small)(a:At' T e E r ms l):Exs z T e E 535 ct r (Dg ct l):=eB sm a
 (fun _ _ _ _ _ _ _ _=>trivial)
 (fun n sc c0 l1 hn a r1 h1 a1=>by
  refine bC (fun t0=>?_) (fun t0=>?_)
  ·exact trivial
  ·refine bC (fun t1=>?_) (fun t1=>?_)
   ·exact .mk r1 [] (.inl rfl) (z.use (hs:=[aF r1 (.dat (.str [c0])),.tst 473011034 false,.tst 475013033 true]) (o:=.fz [] [11]) (g:=cg [(true,dK c0),(false,bI c0)]) (aA t1 (aA t0 aE)) (an h1 trivial) (by kernel_rfl)) (a1.none.and true)
   ·refine bC (fun t2=>?_) (fun t2=>?_)
    ·exact trivial
    ·refine bC (fun t3=>?_) (fun t3=>?_)
     ·obtain rfl:=aP t3
      exact .mk r1 [] (.inl rfl) (z.use (hs:=[aF r1 (.dat (.str [47]))]) (o:=.fz [] []) (g:=cg []) aE (an h1 trivial) (by kernel_rfl)) (a1.none.and true)
     ·exact trivial)
 (fun n x v sc c0 l1 hn hx hv a r1 h1 a1=>by
  refine bC (fun t0=>?_) (fun t0=>?_)
  ·exact trivial
  ·refine bC (fun t1=>?_) (fun t1=>?_)
   ·exact .mk r1 [] (.inl rfl) (z.use (hs:=[aF r1 (.dat (.str [c0])),.tst 473011034 false,.tst 475013033 true]) (o:=.fz [] [12]) (g:=cg [(true,dK c0),(false,bI c0)]) (aA t1 (aA t0 aE)) (an h1 trivial) (by kernel_rfl)) (a1.none.and true)
   ·refine bC (fun t2=>?_) (fun t2=>?_)
    ·exact trivial
    ·refine bC (fun t3=>?_) (fun t3=>?_)
     ·obtain rfl:=aP t3
      exact .mk r1 [] (.inl rfl) (z.use (hs:=[aF r1 (.dat (.str [47]))]) (o:=.fz [] []) (g:=cg []) aE (an h1 trivial) (by kernel_rfl)) (a1.none.and true)
     ·exact trivial)
 (fun n x v y w sc c0 l1 hn hx hv hy hw a r1 h1 a1=>by
  refine bC (fun t3=>?_) (fun t3=>trivial)
  obtain rfl:=aP t3
  exact .mk r1 [] (.inl rfl) (z.use (hs:=[aF r1 (.dat (.str [47]))]) (o:=.fz [] []) (g:=cg []) aE (an h1 trivial) (by kernel_rfl)) (a1.none.and true))
noncomputable def Dh (ct:CT)(l:Nm):Option Res:=oL ct l (fun _ _ _=>none) (fun _ _ _ _=>none) (fun n x v sc c0 l1=>bif nb [c0] [61]then some ⟨true,556,.tag true n [((aO x),v)] sc,[],l1,true⟩else bif dK c0 then some ⟨true,542,.tag true n [((x++([c0]++(l1.takeWhile (cW dK true)))),v)] sc,[],(l1.dropWhile (cW dK true)),true⟩else none) (fun n x v y w sc c0 l1=>bif nb [c0] [61]then(bif nb (aO y) x then none else some ⟨true,556,.tag true n [(x,v),((aO y),w)] sc,[],l1,true⟩)else none)
theorem Qt {z:bS}{T:Nm}{e:Bool}{E:Nat}{r:Stm}{ms l:Nm}{ct:CT}(sm:ct.Small)(a:At' T e E r ms l):Exs z T e E 542 ct r (Dh ct l):=eB sm a
 (fun _ _ _ _ _ _ _ _=>trivial)
 (fun _ _ _ _ _ _ _ _ _=>trivial)
 (fun n x v sc c0 l1 hn hx hv a r1 h1 a1=>by
  refine bC (fun t0=>?_) (fun t0=>?_)
  ·obtain rfl:=aP t0
   exact .mk r1 [] (.inl rfl) (z.use (hs:=[aF r1 (.dat (.str [61])),.cal 42 1 [] (.dat (.str (aO x))) []]) (o:=.fz [] []) (g:=cg []) (ob:=CallOk z.c 1 42 [.dat (.str x)] [] (.dat (.str (aO x))) []∧aQ z r (.dat (.str [61])) r1∧True) aE ⟨cK z (Nat.le_trans hx (Nat.le_of_ble_eq_true rfl)),h1,trivial⟩ (by kernel_rfl)) (a1.none.and true)
  ·refine bC (fun t1=>?_) (fun t1=>?_)
   ·obtain⟨r2,h2,a2⟩:=dG (z:=z) (opp:=true) DT a1 [.dat cA,.dat (.boo true)] (.inr rfl)
    exact .mk r2 [] (.inl rfl) (z.use (hs:=[aF r1 (.dat (.str [c0])),.tst 502011022 false,.tst 504013033 true,oM r2 (l1.takeWhile (cW dK true))]) (o:=.fz [] []) (g:=cg [(true,Nat.ble ((x:Nm).length+([c0]++(l1.takeWhile (cW dK true)):Nm).length) lim),(true,Nat.ble (([c0]:Nm).length+((l1.takeWhile (cW dK true)):Nm).length) lim),(true,dK c0),(false,nb [c0] [61])]) (aA (d7 hx (kZ (Nat.le_refl 1) (eM a1)) rfl) (aA (d7 (Nat.le_refl 1) (eM a1) rfl) (aA t1 (aA t0 aE)))) (an h2 (an h1 trivial)) (by kernel_rfl)) (a2.none.and true)
   ·exact trivial)
 (fun n x v y w sc c0 l1 hn hx hv hy hw a r1 h1 a1=>by
  refine bC (fun t0=>?_) (fun t0=>?_)
  ·obtain rfl:=aP t0
   refine bC (fun t1=>?_) (fun t1=>?_)
   ·exact trivial
   ·exact .mk r1 [] (.inl rfl) (z.use (hs:=[aF r1 (.dat (.str [61])),.cal 42 1 [] (.dat (.str (aO y))) [],.tst 530019059 false]) (o:=.fz [] []) (g:=cg [(false,nb (aO y) x)]) (ob:=CallOk z.c 1 42 [.dat (.str y)] [] (.dat (.str (aO y))) []∧aQ z r (.dat (.str [61])) r1∧True) (aA t1 aE) ⟨cK z (Nat.le_trans hy (Nat.le_of_ble_eq_true rfl)),h1,trivial⟩ (by kernel_rfl)) (a1.none.and true)
  ·exact trivial)
noncomputable def Di (ct:CT)(l:Nm):Option Res:=oL ct l (fun _ _ _=>none) (fun _ _ _ _=>none) (fun n x v sc c0 l1=>bif bI c0 then none else bif nb [c0] [34]then some ⟨true,563,.tag true n [(x,v)] sc,[],l1,true⟩else bif nb [c0] [38]then none else bif nb [c0] [39]then some ⟨true,570,.tag true n [(x,v)] sc,[],l1,true⟩else bif nb [c0] [62]then none else bif nb [c0] [0]then none else bif iV 61 60 96 c0 then none else some ⟨true,577,.tag true n [(x,(v++[c0]))] sc,[],l1,true⟩) (fun n x v y w sc c0 l1=>bif bI c0 then none else bif nb [c0] [34]then some ⟨true,563,.tag true n [(x,v),(y,w)] sc,[],l1,true⟩else bif nb [c0] [38]then none else bif nb [c0] [39]then some ⟨true,570,.tag true n [(x,v),(y,w)] sc,[],l1,true⟩else bif nb [c0] [62]then none else bif nb [c0] [0]then none else bif iV 61 60 96 c0 then none else some ⟨true,577,.tag true n [(x,v),(y,(w++[c0]))] sc,[],l1,true⟩)
theorem Qu {z:bS}{T:Nm}{e:Bool}{E:Nat}{r:Stm}{ms l:Nm}{ct:CT}(sm:ct.Small)(a:At' T e E r ms l):Exs z T e E 556 ct r (Di ct l):=eB sm a
 (fun _ _ _ _ _ _ _ _=>trivial)
 (fun _ _ _ _ _ _ _ _ _=>trivial)
 (fun n x v sc c0 l1 hn hx hv a r1 h1 a1=>by
  refine bC (fun t0=>?_) (fun t0=>?_)
  ·exact trivial
  ·refine bC (fun t1=>?_) (fun t1=>?_)
   ·obtain rfl:=aP t1
    exact .mk r1 [] (.inl rfl) (z.use (hs:=[aF r1 (.dat (.str [34]))]) (o:=.fz [] []) (g:=cg []) aE (an h1 trivial) (by kernel_rfl)) (a1.none.and true)
   ·refine bC (fun t2=>?_) (fun t2=>?_)
    ·exact trivial
    ·refine bC (fun t3=>?_) (fun t3=>?_)
     ·obtain rfl:=aP t3
      exact .mk r1 [] (.inl rfl) (z.use (hs:=[aF r1 (.dat (.str [39]))]) (o:=.fz [] []) (g:=cg []) aE (an h1 trivial) (by kernel_rfl)) (a1.none.and true)
     ·refine bC (fun t4=>?_) (fun t4=>?_)
      ·exact trivial
      ·refine bC (fun t5=>?_) (fun t5=>?_)
       ·exact trivial
       ·refine bC (fun t6=>?_) (fun t6=>?_)
        ·exact trivial
        ·exact .mk r1 [] (.inl rfl) (z.use (hs:=[aF r1 (.dat (.str [c0])),.tst 568011034 false,.tst 570013024 false,.tst 572013024 false,.tst 575013024 false,.tst 577013024 false,.tst 580013027 false,.tst 584013036 false]) (o:=.fz [] []) (g:=cg [(true,Nat.ble ((v:Nm).length+([c0]:Nm).length) lim),(false,iV 61 60 96 c0),(false,nb [c0] [0]),(false,nb [c0] [62]),(false,nb [c0] [39]),(false,nb [c0] [38]),(false,nb [c0] [34]),(false,bI c0)]) (aA (d7 hv (Nat.le_refl 1) rfl) (aA t6 (aA t5 (aA t4 (aA t3 (aA t2 (aA t1 (aA t0 aE)))))))) (an h1 trivial) (by kernel_rfl)) (a1.none.and true))
 (fun n x v y w sc c0 l1 hn hx hv hy hw a r1 h1 a1=>by
  refine bC (fun t0=>?_) (fun t0=>?_)
  ·exact trivial
  ·refine bC (fun t1=>?_) (fun t1=>?_)
   ·obtain rfl:=aP t1
    exact .mk r1 [] (.inl rfl) (z.use (hs:=[aF r1 (.dat (.str [34]))]) (o:=.fz [] []) (g:=cg []) aE (an h1 trivial) (by kernel_rfl)) (a1.none.and true)
   ·refine bC (fun t2=>?_) (fun t2=>?_)
    ·exact trivial
    ·refine bC (fun t3=>?_) (fun t3=>?_)
     ·obtain rfl:=aP t3
      exact .mk r1 [] (.inl rfl) (z.use (hs:=[aF r1 (.dat (.str [39]))]) (o:=.fz [] []) (g:=cg []) aE (an h1 trivial) (by kernel_rfl)) (a1.none.and true)
     ·refine bC (fun t4=>?_) (fun t4=>?_)
      ·exact trivial
      ·refine bC (fun t5=>?_) (fun t5=>?_)
       ·exact trivial
       ·refine bC (fun t6=>?_) (fun t6=>?_)
        ·exact trivial
        ·exact .mk r1 [] (.inl rfl) (z.use (hs:=[aF r1 (.dat (.str [c0])),.tst 568011034 false,.tst 570013024 false,.tst 572013024 false,.tst 575013024 false,.tst 577013024 false,.tst 580013027 false,.tst 584013036 false]) (o:=.fz [] []) (g:=cg [(true,Nat.ble ((w:Nm).length+([c0]:Nm).length) lim),(false,iV 61 60 96 c0),(false,nb [c0] [0]),(false,nb [c0] [62]),(false,nb [c0] [39]),(false,nb [c0] [38]),(false,nb [c0] [34]),(false,bI c0)]) (aA (d7 hw (Nat.le_refl 1) rfl) (aA t6 (aA t5 (aA t4 (aA t3 (aA t2 (aA t1 (aA t0 aE)))))))) (an h1 trivial) (by kernel_rfl)) (a1.none.and true))
noncomputable def Dj (ct:CT)(l:Nm):Option Res:=oL ct l (fun _ _ _=>none) (fun _ _ _ _=>none) (fun n x v sc c0 l1=>bif nb [c0] [34]then some ⟨true,584,.tag true n [(x,v)] sc,[],l1,true⟩else bif nb [c0] [38]then none else bif nb [c0] [0]then none else some ⟨true,563,.tag true n [(x,(v++([c0]++(l1.takeWhile (cW (iV 34 38 0) false)))))] sc,[],(l1.dropWhile (cW (iV 34 38 0) false)),true⟩) (fun n x v y w sc c0 l1=>bif nb [c0] [34]then some ⟨true,584,.tag true n [(x,v),(y,w)] sc,[],l1,true⟩else bif nb [c0] [38]then none else bif nb [c0] [0]then none else some ⟨true,563,.tag true n [(x,v),(y,(w++([c0]++(l1.takeWhile (cW (iV 34 38 0) false)))))] sc,[],(l1.dropWhile (cW (iV 34 38 0) false)),true⟩)
theorem Qv {z:bS}{T:Nm}{e:Bool}{E:Nat}{r:Stm}{ms l:Nm}{ct:CT}(sm:ct.Small)(a:At' T e E r ms l):Exs z T e E 563 ct r (Dj ct l):=eB sm a
 (fun _ _ _ _ _ _ _ _=>trivial)
 (fun _ _ _ _ _ _ _ _ _=>trivial)
 (fun n x v sc c0 l1 hn hx hv a r1 h1 a1=>by
  refine bC (fun t0=>?_) (fun t0=>?_)
  ·obtain rfl:=aP t0
   exact .mk r1 [] (.inl rfl) (z.use (hs:=[aF r1 (.dat (.str [34]))]) (o:=.fz [] []) (g:=cg []) aE (an h1 trivial) (by kernel_rfl)) (a1.none.and true)
  ·refine bC (fun t1=>?_) (fun t1=>?_)
   ·exact trivial
   ·refine bC (fun t2=>?_) (fun t2=>?_)
    ·exact trivial
    ·obtain⟨r2,h2,a2⟩:=dG (z:=z) (opp:=false) (nL 34 38 0) a1 [.dat (.tup [.str [34],.str [38],.str [0]])] (.inl ⟨rfl,rfl⟩)
     exact .mk r2 [] (.inl rfl) (z.use (hs:=[aF r1 (.dat (.str [c0])),.tst 598011022 false,.tst 600013024 false,.tst 602013027 false,oM r2 (l1.takeWhile (cW (iV 34 38 0) false))]) (o:=.fz [] []) (g:=cg [(true,Nat.ble ((v:Nm).length+([c0]++(l1.takeWhile (cW (iV 34 38 0) false)):Nm).length) lim),(true,Nat.ble (([c0]:Nm).length+((l1.takeWhile (cW (iV 34 38 0) false)):Nm).length) lim),(false,nb [c0] [0]),(false,nb [c0] [38]),(false,nb [c0] [34])]) (aA (d7 hv (kZ (Nat.le_refl 1) (eM a1)) rfl) (aA (d7 (Nat.le_refl 1) (eM a1) rfl) (aA t2 (aA t1 (aA t0 aE))))) (an h2 (an h1 trivial)) (by kernel_rfl)) (a2.none.and true))
 (fun n x v y w sc c0 l1 hn hx hv hy hw a r1 h1 a1=>by
  refine bC (fun t0=>?_) (fun t0=>?_)
  ·obtain rfl:=aP t0
   exact .mk r1 [] (.inl rfl) (z.use (hs:=[aF r1 (.dat (.str [34]))]) (o:=.fz [] []) (g:=cg []) aE (an h1 trivial) (by kernel_rfl)) (a1.none.and true)
  ·refine bC (fun t1=>?_) (fun t1=>?_)
   ·exact trivial
   ·refine bC (fun t2=>?_) (fun t2=>?_)
    ·exact trivial
    ·obtain⟨r2,h2,a2⟩:=dG (z:=z) (opp:=false) (nL 34 38 0) a1 [.dat (.tup [.str [34],.str [38],.str [0]])] (.inl ⟨rfl,rfl⟩)
     exact .mk r2 [] (.inl rfl) (z.use (hs:=[aF r1 (.dat (.str [c0])),.tst 598011022 false,.tst 600013024 false,.tst 602013027 false,oM r2 (l1.takeWhile (cW (iV 34 38 0) false))]) (o:=.fz [] []) (g:=cg [(true,Nat.ble ((w:Nm).length+([c0]++(l1.takeWhile (cW (iV 34 38 0) false)):Nm).length) lim),(true,Nat.ble (([c0]:Nm).length+((l1.takeWhile (cW (iV 34 38 0) false)):Nm).length) lim),(false,nb [c0] [0]),(false,nb [c0] [38]),(false,nb [c0] [34])]) (aA (d7 hw (kZ (Nat.le_refl 1) (eM a1)) rfl) (aA (d7 (Nat.le_refl 1) (eM a1) rfl) (aA t2 (aA t1 (aA t0 aE))))) (an h2 (an h1 trivial)) (by kernel_rfl)) (a2.none.and true))
noncomputable def Dk (ct:CT)(l:Nm):Option Res:=oL ct l (fun _ _ _=>none) (fun _ _ _ _=>none) (fun n x v sc c0 l1=>bif nb [c0] [39]then some ⟨true,584,.tag true n [(x,v)] sc,[],l1,true⟩else bif nb [c0] [38]then none else bif nb [c0] [0]then none else some ⟨true,570,.tag true n [(x,(v++([c0]++(l1.takeWhile (cW (iV 39 38 0) false)))))] sc,[],(l1.dropWhile (cW (iV 39 38 0) false)),true⟩) (fun n x v y w sc c0 l1=>bif nb [c0] [39]then some ⟨true,584,.tag true n [(x,v),(y,w)] sc,[],l1,true⟩else bif nb [c0] [38]then none else bif nb [c0] [0]then none else some ⟨true,570,.tag true n [(x,v),(y,(w++([c0]++(l1.takeWhile (cW (iV 39 38 0) false)))))] sc,[],(l1.dropWhile (cW (iV 39 38 0) false)),true⟩)
theorem Qw {z:bS}{T:Nm}{e:Bool}{E:Nat}{r:Stm}{ms l:Nm}{ct:CT}(sm:ct.Small)(a:At' T e E r ms l):Exs z T e E 570 ct r (Dk ct l):=eB sm a
 (fun _ _ _ _ _ _ _ _=>trivial)
 (fun _ _ _ _ _ _ _ _ _=>trivial)
 (fun n x v sc c0 l1 hn hx hv a r1 h1 a1=>by
  refine bC (fun t0=>?_) (fun t0=>?_)
  ·obtain rfl:=aP t0
   exact .mk r1 [] (.inl rfl) (z.use (hs:=[aF r1 (.dat (.str [39]))]) (o:=.fz [] []) (g:=cg []) aE (an h1 trivial) (by kernel_rfl)) (a1.none.and true)
  ·refine bC (fun t1=>?_) (fun t1=>?_)
   ·exact trivial
   ·refine bC (fun t2=>?_) (fun t2=>?_)
    ·exact trivial
    ·obtain⟨r2,h2,a2⟩:=dG (z:=z) (opp:=false) (nL 39 38 0) a1 [.dat (.tup [.str [39],.str [38],.str [0]])] (.inl ⟨rfl,rfl⟩)
     exact .mk r2 [] (.inl rfl) (z.use (hs:=[aF r1 (.dat (.str [c0])),.tst 614011022 false,.tst 616013024 false,.tst 618013027 false,oM r2 (l1.takeWhile (cW (iV 39 38 0) false))]) (o:=.fz [] []) (g:=cg [(true,Nat.ble ((v:Nm).length+([c0]++(l1.takeWhile (cW (iV 39 38 0) false)):Nm).length) lim),(true,Nat.ble (([c0]:Nm).length+((l1.takeWhile (cW (iV 39 38 0) false)):Nm).length) lim),(false,nb [c0] [0]),(false,nb [c0] [38]),(false,nb [c0] [39])]) (aA (d7 hv (kZ (Nat.le_refl 1) (eM a1)) rfl) (aA (d7 (Nat.le_refl 1) (eM a1) rfl) (aA t2 (aA t1 (aA t0 aE))))) (an h2 (an h1 trivial)) (by kernel_rfl)) (a2.none.and true))
 (fun n x v y w sc c0 l1 hn hx hv hy hw a r1 h1 a1=>by
  refine bC (fun t0=>?_) (fun t0=>?_)
  ·obtain rfl:=aP t0
   exact .mk r1 [] (.inl rfl) (z.use (hs:=[aF r1 (.dat (.str [39]))]) (o:=.fz [] []) (g:=cg []) aE (an h1 trivial) (by kernel_rfl)) (a1.none.and true)
  ·refine bC (fun t1=>?_) (fun t1=>?_)
   ·exact trivial
   ·refine bC (fun t2=>?_) (fun t2=>?_)
    ·exact trivial
    ·obtain⟨r2,h2,a2⟩:=dG (z:=z) (opp:=false) (nL 39 38 0) a1 [.dat (.tup [.str [39],.str [38],.str [0]])] (.inl ⟨rfl,rfl⟩)
     exact .mk r2 [] (.inl rfl) (z.use (hs:=[aF r1 (.dat (.str [c0])),.tst 614011022 false,.tst 616013024 false,.tst 618013027 false,oM r2 (l1.takeWhile (cW (iV 39 38 0) false))]) (o:=.fz [] []) (g:=cg [(true,Nat.ble ((w:Nm).length+([c0]++(l1.takeWhile (cW (iV 39 38 0) false)):Nm).length) lim),(true,Nat.ble (([c0]:Nm).length+((l1.takeWhile (cW (iV 39 38 0) false)):Nm).length) lim),(false,nb [c0] [0]),(false,nb [c0] [38]),(false,nb [c0] [39])]) (aA (d7 hw (kZ (Nat.le_refl 1) (eM a1)) rfl) (aA (d7 (Nat.le_refl 1) (eM a1) rfl) (aA t2 (aA t1 (aA t0 aE))))) (an h2 (an h1 trivial)) (by kernel_rfl)) (a2.none.and true))
noncomputable def Dl (ct:CT)(l:Nm):Option Res:=oL ct l (fun _ _ _=>none) (fun _ _ _ _=>none) (fun n x v sc c0 l1=>bif bI c0 then some ⟨true,535,.tag true n [(x,v)] sc,[],l1,true⟩else bif nb [c0] [38]then none else bif nb [c0] [62]then some ⟨true,304,.dead (Tok.stag (aO n) [(x,v)] sc).toD,[.stag (aO n) [(x,v)] sc],l1,true⟩else none) (fun n x v y w sc c0 l1=>bif bI c0 then some ⟨true,535,.tag true n [(x,v),(y,w)] sc,[],l1,true⟩else bif nb [c0] [38]then none else bif nb [c0] [62]then bif nb x Xi then(bif nb y [98]then some ⟨true,304,.dead (Tok.stag (aO n) [(Xi,v),([98],w)] sc).toD,[.stag (aO n) [(Xi,v),([98],w)] sc],l1,true⟩else none)else none else none)
theorem Qx {z:bS}{T:Nm}{e:Bool}{E:Nat}{r:Stm}{ms l:Nm}{ct:CT}(sm:ct.Small)(a:At' T e E r ms l):Exs z T e E 577 ct r (Dl ct l):=eB sm a
 (fun _ _ _ _ _ _ _ _=>trivial)
 (fun _ _ _ _ _ _ _ _ _=>trivial)
 (fun n x v sc c0 l1 hn hx hv a r1 h1 a1=>by
  refine bC (fun t0=>?_) (fun t0=>?_)
  ·exact .mk r1 [] (.inl rfl) (z.use (hs:=[aF r1 (.dat (.str [c0])),.tst 630011034 true]) (o:=.fz [] []) (g:=cg [(true,bI c0)]) (aA t0 aE) (an h1 trivial) (by kernel_rfl)) (a1.none.and true)
  ·refine bC (fun t1=>?_) (fun t1=>?_)
   ·exact trivial
   ·refine bC (fun t2=>?_) (fun t2=>?_)
    ·obtain rfl:=aP t2
     exact .mk r1 [.gone,.gone,.gone] (.inr rfl) (z.use (hs:=[aF r1 (.dat (.str [62])),.cal 42 1 [] (.dat (.str (aO n))) []]) (o:=.fz [10,9,13,8] []) (g:=cg []) (ob:=CallOk z.c 1 42 [.dat (.str n)] [] (.dat (.str (aO n))) []∧aQ z r (.dat (.str [62])) r1∧True) aE ⟨cK z (Nat.le_trans hn (Nat.le_of_ble_eq_true rfl)),h1,trivial⟩ (by kernel_rfl)) (a1.none.and true)
    ·exact trivial)
 (fun n x v y w sc c0 l1 hn hx hv hy hw a r1 h1 a1=>by
  refine bC (fun t0=>?_) (fun t0=>?_)
  ·exact .mk r1 [] (.inl rfl) (z.use (hs:=[aF r1 (.dat (.str [c0])),.tst 630011034 true]) (o:=.fz [] []) (g:=cg [(true,bI c0)]) (aA t0 aE) (an h1 trivial) (by kernel_rfl)) (a1.none.and true)
  ·refine bC (fun t1=>?_) (fun t1=>?_)
   ·exact trivial
   ·refine bC (fun t2=>?_) (fun t2=>?_)
    ·obtain rfl:=aP t2
     refine bC (fun tx=>?_) (fun _=>trivial)
     refine bC (fun ty=>?_) (fun _=>trivial)
     obtain rfl:=bO tx
     obtain rfl:=bO ty
     exact .mk r1 [.gone,.gone,.gone,.gone] (.inr rfl) (z.use (hs:=[aF r1 (.dat (.str [62])),.cal 42 1 [] (.dat (.str (aO n))) []]) (o:=.fz [10,11,9,14,8] []) (g:=cg []) (ob:=CallOk z.c 1 42 [.dat (.str n)] [] (.dat (.str (aO n))) []∧aQ z r (.dat (.str [62])) r1∧True) aE ⟨cK z (Nat.le_trans hn (Nat.le_of_ble_eq_true rfl)),h1,trivial⟩ (by kernel_rfl)) (a1.none.and true)
    ·exact trivial)
noncomputable def Dm (ct:CT)(l:Nm):Option Res:=oL ct l (fun _ _ _=>none) (fun _ _ _ _=>none) (fun n x v sc c0 l1=>bif bI c0 then some ⟨true,535,.tag true n [(x,v)] sc,[],l1,true⟩else bif nb [c0] [62]then some ⟨true,304,.dead (Tok.stag (aO n) [(x,v)] sc).toD,[.stag (aO n) [(x,v)] sc],l1,true⟩else none) (fun n x v y w sc c0 l1=>bif bI c0 then some ⟨true,535,.tag true n [(x,v),(y,w)] sc,[],l1,true⟩else bif nb [c0] [62]then(bif nb x Xi then(bif nb y [98]then some ⟨true,304,.dead (Tok.stag (aO n) [(Xi,v),([98],w)] sc).toD,[.stag (aO n) [(Xi,v),([98],w)] sc],l1,true⟩else none)else none)else none)
theorem Qy {z:bS}{T:Nm}{e:Bool}{E:Nat}{r:Stm}{ms l:Nm}{ct:CT}(sm:ct.Small)(a:At' T e E r ms l):Exs z T e E 584 ct r (Dm ct l):=eB sm a
 (fun _ _ _ _ _ _ _ _=>trivial)
 (fun _ _ _ _ _ _ _ _ _=>trivial)
 (fun n x v sc c0 l1 hn hx hv a r1 h1 a1=>by
  refine bC (fun t0=>?_) (fun t0=>?_)
  ·exact .mk r1 [] (.inl rfl) (z.use (hs:=[aF r1 (.dat (.str [c0])),.tst 651011034 true]) (o:=.fz [] []) (g:=cg [(true,bI c0)]) (aA t0 aE) (an h1 trivial) (by kernel_rfl)) (a1.none.and true)
  ·refine bC (fun t1=>?_) (fun t1=>?_)
   ·obtain rfl:=aP t1
    exact .mk r1 [.gone,.gone,.gone] (.inr rfl) (z.use (hs:=[aF r1 (.dat (.str [62])),.cal 42 1 [] (.dat (.str (aO n))) []]) (o:=.fz [10,9,13,8] []) (g:=cg []) (ob:=CallOk z.c 1 42 [.dat (.str n)] [] (.dat (.str (aO n))) []∧aQ z r (.dat (.str [62])) r1∧True) aE ⟨cK z (Nat.le_trans hn (Nat.le_of_ble_eq_true rfl)),h1,trivial⟩ (by kernel_rfl)) (a1.none.and true)
   ·exact trivial)
 (fun n x v y w sc c0 l1 hn hx hv hy hw a r1 h1 a1=>by
  refine bC (fun t0=>?_) (fun t0=>?_)
  ·exact .mk r1 [] (.inl rfl) (z.use (hs:=[aF r1 (.dat (.str [c0])),.tst 651011034 true]) (o:=.fz [] []) (g:=cg [(true,bI c0)]) (aA t0 aE) (an h1 trivial) (by kernel_rfl)) (a1.none.and true)
  ·refine bC (fun t1=>?_) (fun t1=>?_)
   ·obtain rfl:=aP t1
    refine bC (fun tx=>?_) (fun _=>trivial)
    refine bC (fun ty=>?_) (fun _=>trivial)
    obtain rfl:=bO tx
    obtain rfl:=bO ty
    exact .mk r1 [.gone,.gone,.gone,.gone] (.inr rfl) (z.use (hs:=[aF r1 (.dat (.str [62])),.cal 42 1 [] (.dat (.str (aO n))) []]) (o:=.fz [10,11,9,14,8] []) (g:=cg []) (ob:=CallOk z.c 1 42 [.dat (.str n)] [] (.dat (.str (aO n))) []∧aQ z r (.dat (.str [62])) r1∧True) aE ⟨cK z (Nat.le_trans hn (Nat.le_of_ble_eq_true rfl)),h1,trivial⟩ (by kernel_rfl)) (a1.none.and true)
   ·exact trivial)
noncomputable def Dn (ct:CT)(l:Nm):Option Res:=oL ct l (fun _ _ _=>none) (fun n sc c0 l1=>bif nb [c0] [62]then some ⟨true,304,.dead (Tok.stag (aO n) [] true).toD,[.stag (aO n) [] true],l1,true⟩else none) (fun n x v sc c0 l1=>bif nb [c0] [62]then some ⟨true,304,.dead (Tok.stag (aO n) [(x,v)] true).toD,[.stag (aO n) [(x,v)] true],l1,true⟩else none) (fun n x v y w sc c0 l1=>bif nb [c0] [62]then bif nb x Xi then(bif nb y [98]then some ⟨true,304,.dead (Tok.stag (aO n) [(Xi,v),([98],w)] true).toD,[.stag (aO n) [(Xi,v),([98],w)] true],l1,true⟩else none)else none else none)
theorem Qz {z:bS}{T:Nm}{e:Bool}{E:Nat}{r:Stm}{ms l:Nm}{ct:CT}(sm:ct.Small)(a:At' T e E r ms l):Exs z T e E 591 ct r (Dn ct l):=eB sm a
 (fun _ _ _ _ _ _ _ _=>trivial)
 (fun n sc c0 l1 hn a r1 h1 a1=>by
  refine bC (fun t0=>?_) (fun t0=>?_)
  ·obtain rfl:=aP t0
   exact .mk r1 [.gone,.gone] (.inr rfl) (z.use (hs:=[aF r1 (.dat (.str [62])),.cal 42 1 [] (.dat (.str (aO n))) []]) (o:=.fz [9,12,8] []) (g:=cg []) (ob:=CallOk z.c 1 42 [.dat (.str n)] [] (.dat (.str (aO n))) []∧aQ z r (.dat (.str [62])) r1∧True) aE ⟨cK z (Nat.le_trans hn (Nat.le_of_ble_eq_true rfl)),h1,trivial⟩ (by kernel_rfl)) (a1.none.and true)
  ·exact trivial)
 (fun n x v sc c0 l1 hn hx hv a r1 h1 a1=>by
  refine bC (fun t0=>?_) (fun t0=>?_)
  ·obtain rfl:=aP t0
   exact .mk r1 [.gone,.gone,.gone] (.inr rfl) (z.use (hs:=[aF r1 (.dat (.str [62])),.cal 42 1 [] (.dat (.str (aO n))) []]) (o:=.fz [10,9,13,8] []) (g:=cg []) (ob:=CallOk z.c 1 42 [.dat (.str n)] [] (.dat (.str (aO n))) []∧aQ z r (.dat (.str [62])) r1∧True) aE ⟨cK z (Nat.le_trans hn (Nat.le_of_ble_eq_true rfl)),h1,trivial⟩ (by kernel_rfl)) (a1.none.and true)
  ·exact trivial)
 (fun n x v y w sc c0 l1 hn hx hv hy hw a r1 h1 a1=>by
  refine bC (fun t0=>?_) (fun t0=>?_)
  ·obtain rfl:=aP t0
   refine bC (fun tx=>?_) (fun _=>trivial)
   refine bC (fun ty=>?_) (fun _=>trivial)
   obtain rfl:=bO tx
   obtain rfl:=bO ty
   exact .mk r1 [.gone,.gone,.gone,.gone] (.inr rfl) (z.use (hs:=[aF r1 (.dat (.str [62])),.cal 42 1 [] (.dat (.str (aO n))) []]) (o:=.fz [10,11,9,14,8] []) (g:=cg []) (ob:=CallOk z.c 1 42 [.dat (.str n)] [] (.dat (.str (aO n))) []∧aQ z r (.dat (.str [62])) r1∧True) aE ⟨cK z (Nat.le_trans hn (Nat.le_of_ble_eq_true rfl)),h1,trivial⟩ (by kernel_rfl)) (a1.none.and true)
  ·exact trivial)
end
section
noncomputable def Do:CT→Nm→Option Res
 |.dead d,[]=>some ⟨false,304,.dead d,[],[],true⟩
 |.dead d,c0::l1=>bif nb [c0] [38]then some ⟨true,311,.dead d,[],l1,true⟩else bif nb [c0] [60]then some ⟨true,353,.dead d,[],l1,true⟩else bif nb [c0] [0]then none else bif bI c0 then some ⟨true,304,.dead d,[.chr2 ([c0]++(l1.takeWhile (cW bI true)))],(l1.dropWhile (cW bI true)),true⟩else some ⟨true,304,.dead d,[.chr1 ([c0]++(l1.takeWhile (cW (iV 38 60 0) false)))],(l1.dropWhile (cW (iV 38 60 0) false)),true⟩
 |_,_=>none
theorem RC {z:bS}{T:Nm}{e:Bool}{E:Nat}{r:Stm}{ms l:Nm}{ct:CT}(sm:ct.Small)(a:At' T e E r ms l):Exs z T e E 304 ct r (Do ct l):=by
 cases ct with
 |dead d=>
  cases l with
  |nil=>
   obtain⟨r1,h1,a1⟩:=fM (z:=z) a
   exact .mk r1 [] (.inl rfl) (z.use (hs:=[aF r1 (.dat .non)]) (o:=.fz [] []) (g:=cg []) aE (an h1 trivial) (by kernel_rfl)) (a1.none.and true)
  |cons c0 l1=>
   obtain⟨r1,h1,a1⟩:=aB (z:=z) a
   refine bC (fun t0=>?_) (fun t0=>?_)
   ·obtain rfl:=aP t0
    exact .mk r1 [] (.inl rfl) (z.use (hs:=[aF r1 (.dat (.str [38]))]) (o:=.fz [] []) (g:=cg []) aE (an h1 trivial) (by kernel_rfl)) (a1.none.and true)
   ·refine bC (fun t1=>?_) (fun t1=>?_)
    ·obtain rfl:=aP t1
     exact .mk r1 [] (.inl rfl) (z.use (hs:=[aF r1 (.dat (.str [60]))]) (o:=.fz [] []) (g:=cg []) aE (an h1 trivial) (by kernel_rfl)) (a1.none.and true)
    ·refine bC (fun t2=>?_) (fun t2=>?_)
     ·exact trivial
     ·refine bC (fun t3=>?_) (fun t3=>?_)
      ·obtain⟨r2,h2,a2⟩:=dG (z:=z) (opp:=true) IH a1 [.dat b7,.dat (.boo true)] (.inr rfl)
       exact .mk r2 [] (.inl rfl) (z.use (hs:=[aF r1 (.dat (.str [c0])),.tst 306011022 false,.tst 308013024 false,.tst 310013027 false,.tst 315013036 true,oM r2 (l1.takeWhile (cW bI true))]) (o:=.fz [9] []) (g:=cg [(true,Nat.ble (([c0]:Nm).length+((l1.takeWhile (cW bI true)):Nm).length) lim),(true,bI c0),(false,nb [c0] [0]),(false,nb [c0] [60]),(false,nb [c0] [38])]) (aA (d7 (Nat.le_refl 1) (eM a1) rfl) (aA t3 (aA t2 (aA t1 (aA t0 aE))))) (an h2 (an h1 trivial)) (by kernel_rfl)) (a2.none.and true)
      ·obtain⟨r2,h2,a2⟩:=dG (z:=z) (opp:=false) (nL 38 60 0) a1 [.dat (.tup [.str [38],.str [60],.str [0]])] (.inl ⟨rfl,rfl⟩)
       exact .mk r2 [] (.inl rfl) (z.use (hs:=[aF r1 (.dat (.str [c0])),.tst 306011022 false,.tst 308013024 false,.tst 310013027 false,.tst 315013036 false,oM r2 (l1.takeWhile (cW (iV 38 60 0) false))]) (o:=.fz [9] []) (g:=cg [(true,Nat.ble (([c0]:Nm).length+((l1.takeWhile (cW (iV 38 60 0) false)):Nm).length) lim),(false,bI c0),(false,nb [c0] [0]),(false,nb [c0] [60]),(false,nb [c0] [38])]) (aA (d7 (Nat.le_refl 1) (eM a1) rfl) (aA t3 (aA t2 (aA t1 (aA t0 aE))))) (an h2 (an h1 trivial)) (by kernel_rfl)) (a2.none.and true)
 |_=>cases l <;>exact trivial
noncomputable def Dp (ct:CT)(l:Nm):Option Res:=yM ct l fun d c0 l1=>bif nb [c0] [33]then some ⟨true,605,.dead d,[],l1,true⟩else bif nb [c0] [47]then some ⟨true,360,.dead d,[],l1,true⟩else bif dK c0 then some ⟨true,367,.tag true [c0] [] false,[],l1,true⟩else bif nb [c0] [62]then some ⟨true,304,.dead d,[.err XX,.chr1 [60,62]],l1,true⟩else bif nb [c0] [63]then some ⟨true,598,.dead d,[.err XW],63::l1,true⟩else some ⟨true,304,.dead d,[.err Xe,.chr1 [60]],c0::l1,true⟩
theorem RF {z:bS}{T:Nm}{e:Bool}{E:Nat}{r:Stm}{ms l:Nm}{ct:CT}(sm:ct.Small)(a:At' T e E r ms l):Exs z T e E 353 ct r (Dp ct l):=nM sm a fun d c0 l1 a r1 h1 a1=>by
 refine bC (fun t0=>?_) (fun t0=>?_)
 ·obtain rfl:=aP t0
  exact .mk r1 [] (.inl rfl) (z.use (hs:=[aF r1 (.dat (.str [33]))]) (o:=.fz [] []) (g:=cg []) aE (an h1 trivial) (by kernel_rfl)) (a1.none.and true)
 ·refine bC (fun t1=>?_) (fun t1=>?_)
  ·obtain rfl:=aP t1
   exact .mk r1 [] (.inl rfl) (z.use (hs:=[aF r1 (.dat (.str [47]))]) (o:=.fz [] []) (g:=cg []) aE (an h1 trivial) (by kernel_rfl)) (a1.none.and true)
  ·refine bC (fun t2=>?_) (fun t2=>?_)
   ·exact .mk r1 [] (.inl rfl) (z.use (hs:=[aF r1 (.dat (.str [c0])),.tst 344011022 false,.tst 346013024 false,.tst 348013033 true]) (o:=.fz [] [9,10]) (g:=cg [(true,dK c0),(false,nb [c0] [47]),(false,nb [c0] [33])]) (aA t2 (aA t1 (aA t0 aE))) (an h1 trivial) (by kernel_rfl)) (a1.none.and true)
   ·refine bC (fun t3=>?_) (fun t3=>?_)
    ·obtain rfl:=aP t3
     exact .mk r1 [] (.inl rfl) (z.use (hs:=[aF r1 (.dat (.str [62]))]) (o:=.fz [9,10] []) (g:=cg []) aE (an h1 trivial) (by kernel_rfl)) (a1.none.and true)
    ·refine bC (fun t4=>?_) (fun t4=>?_)
     ·obtain rfl:=aP t4
      obtain⟨r2,h2,a2⟩:=aN (z:=z) a1 a.len (.inr ⟨rfl,rfl⟩)
      exact .mk r2 [] (.inl rfl) (z.use (hs:=[aF r1 (.dat (.str [63])),c7 r2]) (o:=.fz [9] []) (g:=cg []) aE (an h2 (an h1 trivial)) (by kernel_rfl)) (a2.none.and true)
     ·obtain⟨r2,h2,a2⟩:=aN (z:=z) a1 a.len (.inr ⟨rfl,rfl⟩)
      exact .mk r2 [] (.inl rfl) (z.use (hs:=[aF r1 (.dat (.str [c0])),.tst 344011022 false,.tst 346013024 false,.tst 348013033 false,.tst 351013024 false,.tst 355013024 false,c7 r2]) (o:=.fz [9,10] []) (g:=cg [(false,nb [c0] [63]),(false,nb [c0] [62]),(false,dK c0),(false,nb [c0] [47]),(false,nb [c0] [33])]) (aA t4 (aA t3 (aA t2 (aA t1 (aA t0 aE))))) (an h2 (an h1 trivial)) (by kernel_rfl)) (a2.none.and true)
noncomputable def Dq (ct:CT)(l:Nm):Option Res:=yM ct l fun d c0 l1=>bif dK c0 then some ⟨true,367,.tag false [c0] [] false,[],l1,true⟩else bif nb [c0] [62]then none else some ⟨true,598,.dead d,[.erv XY (.dct [(dF,.str [c0])])],c0::l1,true⟩
theorem RH {z:bS}{T:Nm}{e:Bool}{E:Nat}{r:Stm}{ms l:Nm}{ct:CT}(sm:ct.Small)(a:At' T e E r ms l):Exs z T e E 360 ct r (Dq ct l):=nM sm a fun d c0 l1 a r1 h1 a1=>by
 refine bC (fun t0=>?_) (fun t0=>?_)
 ·exact .mk r1 [] (.inl rfl) (z.use (hs:=[aF r1 (.dat (.str [c0])),.tst 368011031 true]) (o:=.fz [] [9,10]) (g:=cg [(true,dK c0)]) (aA t0 aE) (an h1 trivial) (by kernel_rfl)) (a1.none.and true)
 ·refine bC (fun t1=>?_) (fun t1=>?_)
  ·exact trivial
  ·obtain⟨r2,h2,a2⟩:=aN (z:=z) a1 a.len (.inr ⟨rfl,rfl⟩)
   exact .mk r2 [] (.inl rfl) (z.use (hs:=[aF r1 (.dat (.str [c0])),.tst 368011031 false,.tst 371013024 false,c7 r2]) (o:=.fz [10,9] []) (g:=cg [(false,nb [c0] [62]),(false,dK c0)]) (aA t1 (aA t0 aE)) (an h2 (an h1 trivial)) (by kernel_rfl)) (a2.none.and true)
end
section
noncomputable def Dr (d:D):Nm→Option Res
 | []=>none
 |c1::l2=>bif nb [c1] [45]then some ⟨true,612,.com [],[],l2,true⟩else some ⟨true,598,.dead d,[.err XV],45::c1::l2,false⟩
noncomputable def Ds (c0:Nat)(c1:Nat)(c2:Nat)(c3:Nat)(c4:Nat)(c5:Nat)(d:D):Nm→Option Res
 | []=>none
 |c6::l7=>bif hM 101 69 c6 then some ⟨true,654,.doc [],[],l7,true⟩else some ⟨true,598,.dead d,[.err XV],c0::c1::c2::c3::c4::c5::c6::l7,false⟩
noncomputable def Du (c0:Nat)(c1:Nat)(c2:Nat)(c3:Nat)(c4:Nat)(d:D):Nm→Option Res
 | []=>none
 |c5::l6=>bif hM 112 80 c5 then Ds c0 c1 c2 c3 c4 c5 d l6 else none
noncomputable def Dv (c0:Nat)(c1:Nat)(c2:Nat)(c3:Nat)(d:D):Nm→Option Res
 | []=>none
 |c4::l5=>bif hM 121 89 c4 then Du c0 c1 c2 c3 c4 d l5 else none
noncomputable def Dw (c0:Nat)(c1:Nat)(c2:Nat)(d:D):Nm→Option Res
 | []=>none
 |c3::l4=>bif hM 116 84 c3 then Dv c0 c1 c2 c3 d l4 else some ⟨true,598,.dead d,[.err XV],c0::c1::c2::c3::l4,false⟩
noncomputable def Dx (c0:Nat)(c1:Nat)(d:D):Nm→Option Res
 | []=>none
 |c2::l3=>bif hM 99 67 c2 then Dw c0 c1 c2 d l3 else none
noncomputable def Dy (c0:Nat)(d:D):Nm→Option Res
 | []=>none
 |c1::l2=>bif hM 111 79 c1 then Dx c0 c1 d l2 else some ⟨true,598,.dead d,[.err XV],c0::c1::l2,false⟩
noncomputable def Dz (ct:CT)(l:Nm):Option Res:=yM ct l fun d c0 l1=>bif nb [c0] [45]then Dr d l1 else bif hM 100 68 c0 then Dy c0 d l1 else some ⟨true,598,.dead d,[.err XV],c0::l1,false⟩
theorem RI {z:bS}{T:Nm}{e:Bool}{E:Nat}{r:Stm}{ms l:Nm}{ct:CT}(sm:ct.Small)(a:At' T e E r ms l):Exs z T e E 605 ct r (Dz ct l):=nM sm a fun d c0 l1 a r1 h1 a1=>by
 refine bC (fun t0=>?_) (fun t0=>?_)
 ·obtain rfl:=aP t0
  cases l1 with
  |nil=>
   exact trivial
  |cons c1 l2=>
   obtain⟨r2,h2,a2⟩:=aB (z:=z) a1
   refine bC (fun t1=>?_) (fun t1=>?_)
   ·obtain rfl:=aP t1
    exact .mk r2 [] (.inl rfl) (z.use (hs:=[aF r1 (.dat (.str [45])),aF r2 (.dat (.str [45]))]) (o:=.fz [] [10]) (g:=cg []) aE (an h2 (an h1 trivial)) (by kernel_rfl)) (a2.none.and true)
   ·obtain⟨r3,h3,a3⟩:=aN (z:=z) a2 a1.len (.inl ⟨rfl,rfl⟩)
    obtain⟨r4,h4,a4⟩:=aN (z:=z) a3 a.len (.inl ⟨rfl,rfl⟩)
    exact .mk r4 [] (.inl rfl) (z.use (hs:=[aF r1 (.dat (.str [45])),aF r2 (.dat (.str [c1])),.tst 694015035 false,c7 r3,c7 r4]) (o:=.fz [10] []) (g:=cg [(false,nb [c1] [45])]) (aA t1 aE) (an h4 (an h3 (an h2 (an h1 trivial)))) (by kernel_rfl)) a4.none.fin
 ·refine bC (fun t1=>?_) (fun t1=>?_)
  ·cases l1 with
   |nil=>
    exact trivial
   |cons c1 l2=>
    obtain⟨r2,h2,a2⟩:=aB (z:=z) a1
    refine bC (fun t2=>?_) (fun t2=>?_)
    ·cases l2 with
     |nil=>
      exact trivial
     |cons c2 l3=>
      obtain⟨r3,h3,a3⟩:=aB (z:=z) a2
      refine bC (fun t3=>?_) (fun t3=>?_)
      ·cases l3 with
       |nil=>
        exact trivial
       |cons c3 l4=>
        obtain⟨r4,h4,a4⟩:=aB (z:=z) a3
        refine bC (fun t4=>?_) (fun t4=>?_)
        ·cases l4 with
         |nil=>
          exact trivial
         |cons c4 l5=>
          obtain⟨r5,h5,a5⟩:=aB (z:=z) a4
          refine bC (fun t5=>?_) (fun t5=>?_)
          ·cases l5 with
           |nil=>
            exact trivial
           |cons c5 l6=>
            obtain⟨r6,h6,a6⟩:=aB (z:=z) a5
            refine bC (fun t6=>?_) (fun t6=>?_)
            ·cases l6 with
             |nil=>
              exact trivial
             |cons c6 l7=>
              obtain⟨r7,h7,a7⟩:=aB (z:=z) a6
              refine bC (fun t7=>?_) (fun t7=>?_)
              ·exact .mk r7 [] (.inl rfl) (z.use (hs:=[aF r1 (.dat (.str [c0])),.tst 692011031 false,.tst 698013040 true,aF r2 (.dat (.str [c1])),.tst 702019048 false,aF r3 (.dat (.str [c2])),.tst 702019048 false,aF r4 (.dat (.str [c3])),.tst 702019048 false,aF r5 (.dat (.str [c4])),.tst 702019048 false,aF r6 (.dat (.str [c5])),.tst 702019048 false,aF r7 (.dat (.str [c6])),.tst 702019048 false]) (o:=.fz [] [10]) (g:=cg [(false,!hM 101 69 c6),(false,!hM 112 80 c5),(false,!hM 121 89 c4),(false,!hM 116 84 c3),(false,!hM 99 67 c2),(false,!hM 111 79 c1),(true,hM 100 68 c0),(false,nb [c0] [45])]) (aA (congrArg (!·) t7) (aA (congrArg (!·) t6) (aA (congrArg (!·) t5) (aA (congrArg (!·) t4) (aA (congrArg (!·) t3) (aA (congrArg (!·) t2) (aA t1 (aA t0 aE)))))))) (an h7 (an h6 (an h5 (an h4 (an h3 (an h2 (an h1 trivial))))))) (by kernel_rfl)) (a7.none.and true)
              ·obtain⟨r8,h8,a8⟩:=aN (z:=z) a7 a6.len (.inl ⟨rfl,rfl⟩)
               obtain⟨r9,h9,a9⟩:=aN (z:=z) a8 a5.len (.inl ⟨rfl,rfl⟩)
               obtain⟨r10,h10,a10⟩:=aN (z:=z) a9 a4.len (.inl ⟨rfl,rfl⟩)
               obtain⟨r11,h11,a11⟩:=aN (z:=z) a10 a3.len (.inl ⟨rfl,rfl⟩)
               obtain⟨r12,h12,a12⟩:=aN (z:=z) a11 a2.len (.inl ⟨rfl,rfl⟩)
               obtain⟨iO,h13,a13⟩:=aN (z:=z) a12 a1.len (.inl ⟨rfl,rfl⟩)
               obtain⟨r14,h14,a14⟩:=aN (z:=z) a13 a.len (.inl ⟨rfl,rfl⟩)
               exact .mk r14 [] (.inl rfl) (z.use (hs:=[aF r1 (.dat (.str [c0])),.tst 692011031 false,.tst 698013040 true,aF r2 (.dat (.str [c1])),.tst 702019048 false,aF r3 (.dat (.str [c2])),.tst 702019048 false,aF r4 (.dat (.str [c3])),.tst 702019048 false,aF r5 (.dat (.str [c4])),.tst 702019048 false,aF r6 (.dat (.str [c5])),.tst 702019048 false,aF r7 (.dat (.str [c6])),.tst 702019048 true,c7 r8,c7 r9,c7 r10,c7 r11,c7 r12,c7 iO,c7 r14]) (o:=.fz [10] []) (g:=cg [(true,!hM 101 69 c6),(false,!hM 112 80 c5),(false,!hM 121 89 c4),(false,!hM 116 84 c3),(false,!hM 99 67 c2),(false,!hM 111 79 c1),(true,hM 100 68 c0),(false,nb [c0] [45])]) (aA (congrArg (!·) t7) (aA (congrArg (!·) t6) (aA (congrArg (!·) t5) (aA (congrArg (!·) t4) (aA (congrArg (!·) t3) (aA (congrArg (!·) t2) (aA t1 (aA t0 aE)))))))) (an h14 (an h13 (an h12 (an h11 (an h10 (an h9 (an h8 (an h7 (an h6 (an h5 (an h4 (an h3 (an h2 (an h1 trivial)))))))))))))) (by kernel_rfl)) a14.none.fin
            ·exact trivial
          ·exact trivial
        ·obtain⟨r5,h5,a5⟩:=aN (z:=z) a4 a3.len (.inl ⟨rfl,rfl⟩)
         obtain⟨r6,h6,a6⟩:=aN (z:=z) a5 a2.len (.inl ⟨rfl,rfl⟩)
         obtain⟨r7,h7,a7⟩:=aN (z:=z) a6 a1.len (.inl ⟨rfl,rfl⟩)
         obtain⟨r8,h8,a8⟩:=aN (z:=z) a7 a.len (.inl ⟨rfl,rfl⟩)
         exact .mk r8 [] (.inl rfl) (z.use (hs:=[aF r1 (.dat (.str [c0])),.tst 692011031 false,.tst 698013040 true,aF r2 (.dat (.str [c1])),.tst 702019048 false,aF r3 (.dat (.str [c2])),.tst 702019048 false,aF r4 (.dat (.str [c3])),.tst 702019048 true,c7 r5,c7 r6,c7 r7,c7 r8]) (o:=.fz [10] []) (g:=cg [(true,!hM 116 84 c3),(false,!hM 99 67 c2),(false,!hM 111 79 c1),(true,hM 100 68 c0),(false,nb [c0] [45])]) (aA (congrArg (!·) t4) (aA (congrArg (!·) t3) (aA (congrArg (!·) t2) (aA t1 (aA t0 aE))))) (an h8 (an h7 (an h6 (an h5 (an h4 (an h3 (an h2 (an h1 trivial)))))))) (by kernel_rfl)) a8.none.fin
      ·exact trivial
    ·obtain⟨r3,h3,a3⟩:=aN (z:=z) a2 a1.len (.inl ⟨rfl,rfl⟩)
     obtain⟨r4,h4,a4⟩:=aN (z:=z) a3 a.len (.inl ⟨rfl,rfl⟩)
     exact .mk r4 [] (.inl rfl) (z.use (hs:=[aF r1 (.dat (.str [c0])),.tst 692011031 false,.tst 698013040 true,aF r2 (.dat (.str [c1])),.tst 702019048 true,c7 r3,c7 r4]) (o:=.fz [10] []) (g:=cg [(true,!hM 111 79 c1),(true,hM 100 68 c0),(false,nb [c0] [45])]) (aA (congrArg (!·) t2) (aA t1 (aA t0 aE))) (an h4 (an h3 (an h2 (an h1 trivial)))) (by kernel_rfl)) a4.none.fin
  ·obtain⟨r2,h2,a2⟩:=aN (z:=z) a1 a.len (.inl ⟨rfl,rfl⟩)
   exact .mk r2 [] (.inl rfl) (z.use (hs:=[aF r1 (.dat (.str [c0])),.tst 692011031 false,.tst 698013040 false,c7 r2]) (o:=.fz [10] []) (g:=cg [(false,hM 100 68 c0),(false,nb [c0] [45])]) (aA t1 (aA t0 aE)) (an h2 (an h1 trivial)) (by kernel_rfl)) a2.none.fin
noncomputable def EA (ct:CT)(l:Nm):Option Res:=DU ct l fun n c0 l1=>bif bI c0 then none else bif nb [c0] [62]then some ⟨true,304,.dead (Tok.doc n).toD,[.doc n],l1,true⟩else none
theorem RJ {z:bS}{T:Nm}{e:Bool}{E:Nat}{r:Stm}{ms l:Nm}{ct:CT}(sm:ct.Small)(a:At' T e E r ms l):Exs z T e E 675 ct r (EA ct l):=lW sm a fun n c0 l1 hn a r1 h1 a1=>by
 refine bC (fun t0=>?_) (fun t0=>?_)
 ·exact trivial
 ·refine bC (fun t1=>?_) (fun t1=>?_)
  ·obtain rfl:=aP t1
   exact .mk r1 [.gone] (.inr rfl) (z.use (hs:=[aF r1 (.dat (.str [62]))]) (o:=.fz [8] []) (g:=cg []) aE (an h1 trivial) (by kernel_rfl)) (a1.none.and true)
  ·exact trivial
end
section
noncomputable def IJ:Nm:=Xy
noncomputable def IK:Nm:=Xw
noncomputable def tK:Nm:=Xk
noncomputable def nN:Nm:=Xf
noncomputable def oN:Nm:=Xd
noncomputable def lP:Nm:=Xb
noncomputable def EB:Nm:=[111,117,116,112,117,116]
noncomputable def tL:Nm:=[99,104,97,114,83,116,97,99,107]
noncomputable def EC:Nm:=[112,114,101,102,105,120]
noncomputable def fX:Nm:=[101,110,116,105,116,121,78,97,109,101]
theorem tM (f:Nat→O→O)(h:∀ l o,f l o=o):∀ (n:Nat) (hp:List O),zO f n hp=hp
 |_,[]=>rfl
 |n,x::r=>by
  show f n x::zO f (n+1) r=_
  rw[h,tM f h]
theorem AY (hp:List O):dU [] hp []=hp:=by
 exact(congrArg (· ++_) (tM (KY [] hp.length []) (fun _ _=>rfl) 0 hp)).trans (List.append_nil _)
noncomputable def Mk:List Nm:=match cY with
 |.dct es=>es.map (·.1)
 |_=>[]
inductive RplOk (K:Frag):Prop
 |mk (o:Obj) (f:Int→Option Value) (l:K.lookup 46=some o) (m:∀ h:Heap,h.get? 46=some o→h.IntMap 46 f) (e:f 65=none)
section
variable (z:bS)
theorem RK (R:RplOk z.K){n:Nat}(hp:List O):cG z.c n hp (compareOp (bR .isin)) jA (.dat (.int 65)) (.top 46) false hp:=fun A W s u u' zz (.mk t) hv=>match R with
 |.mk o f l m e=>by
  rw[show u'=.ref 46 from hv]
  exact wpAny_in_intMap (m _ (zz.In _ _ l)) (by rw[e];exact .tok zz rfl)
theorem RM {n:Nat}{p:Nm}:CallOk z.c (n+1) 199 [.top 236,.dat (.str p)] [] (.dat (.boo (bM p Mk))) []:=z.use (hs:=[]) (o:=.fz [] []) (g:=true) rfl trivial (by kernel_rfl)
theorem RN {n:Nat}{p:Nm}(hp:List O):cG z.c (n+1) hp (compareOp (bR .isin)) jA (.dat (.str p)) (.top 236) (bM p Mk) hp:=
 MI (t:=⟨236,230,235,[(IJ,.dat cY),(IK,.dat v6),(tK,.dat (.str [])),(nN,.dat (.tup [.int 0,.int 43]))]⟩) (cl:=Cr) rfl rfl rfl (by
  have q:=qE (σ:=[]) (hp:=hp) (args:=[.top 236,.dat (.str p)]) (n:=n+1) (by kernel_rfl) (Nat.ble_eq_true_of_le (Nat.le_refl (n+1))) (RM z)
  rw[AY]at q
  exact q)
theorem fY {n:Nat}{p:Nm}(h:bM p Mk=true):CallOk z.c (n+2) 227 [.top 236,.dat (.str p)] [] (.dat (.str p)) []:=
 z.use (hs:=[.cmp 174011025 true]) (o:=.fz [] []) (g:=true) (ob:=(∀ hp,cG z.c (n+1) hp (compareOp (bR .isin)) jA (.dat (.str p)) (.top 236) true hp)∧True) rfl ⟨fun hp=>h▸RN z hp,trivial⟩ (by kernel_rfl)
theorem WU:CallOk z.c 3 220 [.top 236,.dat (.str [97])] [] (.dat (.boo true)) []:=z.use (hs:=[]) (o:=.fz [] []) (g:=true) rfl trivial (by kernel_rfl)
theorem RO:CallOk z.c 3 220 [.top 236,.dat (.str [97,109])] [] (.dat (.boo true)) []:=z.use (hs:=[]) (o:=.fz [] []) (g:=true) rfl trivial (by kernel_rfl)
theorem Jt:CallOk z.c 3 220 [.top 236,.dat (.str [97,109,112])] [] (.dat (.boo true)) []:=z.use (hs:=[]) (o:=.fz [] []) (g:=true) rfl trivial (by kernel_rfl)
theorem ED:CallOk z.c 3 220 [.top 236,.dat (.str Xg)] [] (.dat (.boo true)) []:=z.use (hs:=[]) (o:=.fz [] []) (g:=true) rfl trivial (by kernel_rfl)
theorem IL {c:Nat}:CallOk z.c 3 220 [.top 236,.dat (.str [97,109,112,59,c])] [] (.dat (.boo false)) []:=z.use (hs:=[]) (o:=.fz [] []) (g:=true) rfl trivial (by kernel_rfl)
theorem Ux:CallOk z.c 3 220 [.top 236,.dat (.str [110])] [] (.dat (.boo true)) []:=z.use (hs:=[]) (o:=.fz [] []) (g:=true) rfl trivial (by kernel_rfl)
theorem Ml:CallOk z.c 3 220 [.top 236,.dat (.str [110,111])] [] (.dat (.boo true)) []:=z.use (hs:=[]) (o:=.fz [] []) (g:=true) rfl trivial (by kernel_rfl)
theorem EG:CallOk z.c 3 220 [.top 236,.dat (.str [110,111,116])] [] (.dat (.boo true)) []:=z.use (hs:=[]) (o:=.fz [] []) (g:=true) rfl trivial (by kernel_rfl)
theorem Mm:CallOk z.c 3 220 [.top 236,.dat (.str [110,111,116,33])] [] (.dat (.boo false)) []:=z.use (hs:=[]) (o:=.fz [] []) (g:=true) rfl trivial (by kernel_rfl)
theorem EI:CallOk z.c 3 220 [.top 236,.dat (.str [110,111,116,105])] [] (.dat (.boo true)) []:=z.use (hs:=[]) (o:=.fz [] []) (g:=true) rfl trivial (by kernel_rfl)
theorem yN:CallOk z.c 3 220 [.top 236,.dat (.str [110,111,116,105,110])] [] (.dat (.boo true)) []:=z.use (hs:=[]) (o:=.fz [] []) (g:=true) rfl trivial (by kernel_rfl)
theorem tN:CallOk z.c 3 220 [.top 236,.dat (.str Xa)] [] (.dat (.boo true)) []:=z.use (hs:=[]) (o:=.fz [] []) (g:=true) rfl trivial (by kernel_rfl)
theorem AZ {c:Nat}:CallOk z.c 3 220 [.top 236,.dat (.str [110,111,116,105,110,59,c])] [] (.dat (.boo false)) []:=z.use (hs:=[]) (o:=.fz [] []) (g:=true) rfl trivial (by kernel_rfl)
theorem XK:CallOk z.c 3 220 [.top 236,.dat (.str [120])] [] (.dat (.boo false)) []:=z.use (hs:=[]) (o:=.fz [] []) (g:=true) rfl trivial (by kernel_rfl)
theorem To:CallOk z.c 3 220 [.top 236,.dat (.str [108])] [] (.dat (.boo true)) []:=z.use (hs:=[]) (o:=.fz [] []) (g:=true) rfl trivial (by kernel_rfl)
theorem IM:CallOk z.c 3 220 [.top 236,.dat (.str [108,116])] [] (.dat (.boo true)) []:=z.use (hs:=[]) (o:=.fz [] []) (g:=true) rfl trivial (by kernel_rfl)
theorem yO:CallOk z.c 3 220 [.top 236,.dat (.str [108,116,59])] [] (.dat (.boo true)) []:=z.use (hs:=[]) (o:=.fz [] []) (g:=true) rfl trivial (by kernel_rfl)
theorem rB:CallOk z.c 3 220 [.top 236,.dat (.str Xx)] [] (.dat (.boo false)) []:=z.use (hs:=[]) (o:=.fz [] []) (g:=true) rfl trivial (by kernel_rfl)
noncomputable def Ju:Stmt→List Stmt
 |.If _ _ b _=>b
 |_=>[]
noncomputable def Mn:Fn:=kS iU [21,3] [.dat .non,.dat (.boo false)]
noncomputable def Oa:Fn:=kS iU [18,5] []
noncomputable def IN:Stmt:=fG (Ju (fG (Ju (fG Mn.body 2)) 0)) 1
structure TryI where
 y:Str
 px:Pos
 r:Expr
 a:Str
 ap:Pos
 rs:List Expr
 cp:Pos
 sp:Pos
 rb:List Stmt
 k:Str
 kp:Pos
 py:Pos
 cx:Nat
 np:Pos
 sp2:Pos
 hp:Pos
 tp:Pos
noncomputable def Uy:Stmt→Option TryI
 |.Try (.Assign [.Name y px] (.Call (.Attribute r a ap) rs [] cp) sp::rb) [.ExceptHandler (some (.Name k kp)) none [.Assign [.Name _ py] (.Constant .none cx np) sp2] hp] [] [] tp=>some ⟨y,px,r,a,ap,rs,cp,sp,rb,k,kp,py,cx,np,sp2,hp,tp⟩
 |_=>none
noncomputable def tI:TryI:=(Uy IN).getD ⟨st [],fC,.Constant .none 0 fC,st [],fC,[],fC,fC,[],st [],fC,fC,0,fC,fC,fC,fC⟩
structure RaI where
 ra:Expr
 np:Pos
 cp:Pos
 rp:Pos
noncomputable def XM:Stmt→RaI
 |.Raise (some (.Call (.Name _ np) [ra] [] cp)) none rp=>⟨ra,np,cp,rp⟩
 |_=>⟨.Constant .none 0 fC,fC,fC,fC⟩
noncomputable def rI:RaI:=XM (fG Oa.body 2)
noncomputable def IP (r:Stm)(d:D)(eo:List (Nm×V)):List O:=TL r 311 (.dead d) []++[.fr [(d5,.ref 0)],.fr ([(d5,.ref 0),(oN,.dat .non),(lP,.dat (.boo false)),(EB,.dat (.str [38])),(tL,.ref 10)]++eo),.lst [.dat (.str [120])]]
noncomputable def Fh (r:Stm)(d:D)(eo:List (Nm×V)):List O:=IP r d eo++[.lst []]
noncomputable def RQ (r:Stm)(d:D):List O:=Fh r d []++[.fr [(d5,.top 236),(EC,.dat (.str []))]]
variable {r:Stm}{d:D}
theorem Mo:RX z.c Oa.names 5 ⟨12,[],true⟩ (RQ r d) (Oa.body.take 2) .next (RQ r d):=
 z.useX (hs:=[.cmp 174011025 false]) (g:=true) (ob:=(∀ hp,cG z.c 5 hp (compareOp (bR .isin)) jA (.dat (.str [])) (.top 236) false hp)∧True) rfl ⟨fun hp=>RN z (n:=4) hp,trivial⟩ (by kernel_rfl)
theorem RU:RE z.c Oa.names 5 ⟨12,[],true⟩ (RQ r d) rI.ra (.dat (.str [])) (RQ r d):=z.useE (hs:=[]) (g:=true) rfl trivial (by kernel_rfl)
theorem IQ:RaiseOk z.c 6 227 [.top 236,.dat (.str [])] (Fh r d []) (Fh r d []):=
 v0 (c:=z.c) (F:=Oa) (X:=⟨12,[],true⟩) (hp1:=RQ r d) (p:=(.dat .non,Fh r d [])) (fz:=[]) (τ:=[]) (rpos:=rI.rp) (np:=rI.np) (cpos:=rI.cp) (z.tab 227 Oa (fK (by kernel_rfl))) (by kernel_rfl) (by kernel_rfl) (by kernel_rfl) (by kernel_rfl) (Mo z) (RU z) (by kernel_rfl) rfl (by kernel_rfl) (by kernel_rfl) (by kernel_rfl) (by kernel_rfl)
theorem RV:RS z.c Mn.names 6 ⟨9,[],true⟩ (IP r d []) IN .next (Fh r d [(fX,.dat .non)]):=by
 have e:IN=.Try (.Assign [.Name (st tI.y.cps.toList) tI.px] (.Call (.Attribute tI.r tI.a tI.ap) tI.rs [] tI.cp) tI.sp::tI.rb) [.ExceptHandler (some (.Name (st Ff) tI.kp)) none [.Assign [.Name (st tI.y.cps.toList) tI.py] (.Constant .none tI.cx tI.np) tI.sp2] tI.hp] [] [] tI.tp:=by kernel_rfl
 rw[e]
 have h1:RE z.c Mn.names 6 ⟨9,[],true⟩ (IP r d []) tI.r (.top 236) (IP r d []):=z.useE (hs:=[]) (g:=true) rfl trivial (by kernel_rfl)
 have h3:xQ z.c Mn.names 6 ⟨9,[],true⟩ (IP r d []) tI.rs [.dat (.str [])] (Fh r d []):=by
  have h:RE z.c Mn.names 6 ⟨9,[],true⟩ (IP r d []) (tI.rs.headD tI.r) (.dat (.str [])) (Fh r d []):=z.useE (hs:=[]) (g:=true) rfl trivial (by kernel_rfl)
  exact Eq.mpr (congrArg (fun rs=>xQ z.c Mn.names 6 ⟨9,[],true⟩ (IP r d []) rs [.dat (.str [])] (Fh r d [])) (by kernel_rfl:tI.rs=[tI.rs.headD tI.r])) (fJ h jD)
 exact Hm (by kernel_rfl) (by decide) (by kernel_rfl) (fun _ _=>rfl) h1 (((Kv z.c 6 (IP r d []) (.top 236) tI.a.cps.toList).get (by kernel_rfl)).ok (by kernel_rfl)) h3 (IQ z) rfl (by kernel_rfl) (by kernel_rfl) (by kernel_rfl) (by kernel_rfl) (by kernel_rfl) (fun _=>rfl) (fun _ _ _=>rfl)
end
end
section
noncomputable def bA:Nm:=XZ
noncomputable def bP:Nm:=Xc
section
variable {z:bS}{T:Nm}{e:Bool}{E:Nat}{r:Stm}{ms l:Nm}{d:D}
theorem RW (a:At' T e E r ms (Xg++l)):ExR z T e E 311 (.dead d) r ⟨true,304,.dead d,[.chr1 [38]],l,true⟩:=by
 cases l with
 |nil=>
  obtain⟨r1,h1,a1⟩:=aB (z:=z) a
  obtain⟨r2,h2,a2⟩:=aB (z:=z) a1
  obtain⟨r3,h3,a3⟩:=aB (z:=z) a2
  obtain⟨r4,h4,a4⟩:=aB (z:=z) a3
  obtain⟨r5,h5,a5⟩:=fM (z:=z) a4
  exact .mk (res:=⟨true,304,.dead d,[.chr1 [38]],[],true⟩) r5 [] (.inl rfl) (z.use (hs:=[aF r1 (.dat (.str [97])),.cal 220 3 [] (.dat (.boo true)) [],aF r2 (.dat (.str [109])),.cal 220 3 [] (.dat (.boo true)) [],aF r3 (.dat (.str [112])),.cal 220 3 [] (.dat (.boo true)) [],aF r4 (.dat (.str [59])),.cal 220 3 [] (.dat (.boo true)) [],aF r5 (.dat .non),.cal 227 2 [] (.dat (.str Xg)) [],c7 r5]) (o:=.fz [13] []) (g:=cg []) (ob:=iN z r5 (.dat .non) r5∧CallOk z.c 2 227 [.top 236,.dat (.str Xg)] [] (.dat (.str Xg)) []∧aQ z r4 (.dat .non) r5∧CallOk z.c 3 220 [.top 236,.dat (.str Xg)] [] (.dat (.boo true)) []∧aQ z r3 (.dat (.str [59])) r4∧CallOk z.c 3 220 [.top 236,.dat (.str [97,109,112])] [] (.dat (.boo true)) []∧aQ z r2 (.dat (.str [112])) r3∧CallOk z.c 3 220 [.top 236,.dat (.str [97,109])] [] (.dat (.boo true)) []∧aQ z r1 (.dat (.str [109])) r2∧CallOk z.c 3 220 [.top 236,.dat (.str [97])] [] (.dat (.boo true)) []∧aQ z r (.dat (.str [97])) r1∧True) aE ⟨pQ,fY z (n:=0) (by kernel_rfl),h5,ED z,h4,Jt z,h3,RO z,h2,WU z,h1,trivial⟩ (by kernel_rfl)) (a5.none.and true)
 |cons c l=>
  obtain⟨r1,h1,a1⟩:=aB (z:=z) a
  obtain⟨r2,h2,a2⟩:=aB (z:=z) a1
  obtain⟨r3,h3,a3⟩:=aB (z:=z) a2
  obtain⟨r4,h4,a4⟩:=aB (z:=z) a3
  obtain⟨r5,h5,a5⟩:=aB (z:=z) a4
  obtain⟨r6,h6,a6⟩:=aN (z:=z) a5 a4.len (.inr ⟨rfl,rfl⟩)
  exact .mk (res:=⟨true,304,.dead d,[.chr1 [38]],(c::l),true⟩) r6 [] (.inl rfl) (z.use (hs:=[aF r1 (.dat (.str [97])),.cal 220 3 [] (.dat (.boo true)) [],aF r2 (.dat (.str [109])),.cal 220 3 [] (.dat (.boo true)) [],aF r3 (.dat (.str [112])),.cal 220 3 [] (.dat (.boo true)) [],aF r4 (.dat (.str [59])),.cal 220 3 [] (.dat (.boo true)) [],aF r5 (.dat (.str [c])),.cal 220 3 [] (.dat (.boo false)) [],.cal 227 2 [] (.dat (.str Xg)) [],c7 r6]) (o:=.fz [13] []) (g:=cg []) (ob:=iN z r5 (.dat (.str [c])) r6∧CallOk z.c 2 227 [.top 236,.dat (.str Xg)] [] (.dat (.str Xg)) []∧CallOk z.c 3 220 [.top 236,.dat (.str [97,109,112,59,c])] [] (.dat (.boo false)) []∧aQ z r4 (.dat (.str [c])) r5∧CallOk z.c 3 220 [.top 236,.dat (.str Xg)] [] (.dat (.boo true)) []∧aQ z r3 (.dat (.str [59])) r4∧CallOk z.c 3 220 [.top 236,.dat (.str [97,109,112])] [] (.dat (.boo true)) []∧aQ z r2 (.dat (.str [112])) r3∧CallOk z.c 3 220 [.top 236,.dat (.str [97,109])] [] (.dat (.boo true)) []∧aQ z r1 (.dat (.str [109])) r2∧CallOk z.c 3 220 [.top 236,.dat (.str [97])] [] (.dat (.boo true)) []∧aQ z r (.dat (.str [97])) r1∧True) aE ⟨h6,fY z (n:=0) (by kernel_rfl),IL z,h5,ED z,h4,Jt z,h3,RO z,h2,WU z,h1,trivial⟩ (by kernel_rfl)) (a6.none.and true)
theorem IR (a:At' T e E r ms (Xa++l)):ExR z T e E 311 (.dead d) r ⟨true,304,.dead d,[.chr1 [8713]],l,true⟩:=by
 cases l with
 |nil=>
  obtain⟨r1,h1,a1⟩:=aB (z:=z) a
  obtain⟨r2,h2,a2⟩:=aB (z:=z) a1
  obtain⟨r3,h3,a3⟩:=aB (z:=z) a2
  obtain⟨r4,h4,a4⟩:=aB (z:=z) a3
  obtain⟨r5,h5,a5⟩:=aB (z:=z) a4
  obtain⟨r6,h6,a6⟩:=aB (z:=z) a5
  obtain⟨r7,h7,a7⟩:=fM (z:=z) a6
  exact .mk (res:=⟨true,304,.dead d,[.chr1 [8713]],[],true⟩) r7 [] (.inl rfl) (z.use (hs:=[aF r1 (.dat (.str [110])),.cal 220 3 [] (.dat (.boo true)) [],aF r2 (.dat (.str [111])),.cal 220 3 [] (.dat (.boo true)) [],aF r3 (.dat (.str [116])),.cal 220 3 [] (.dat (.boo true)) [],aF r4 (.dat (.str [105])),.cal 220 3 [] (.dat (.boo true)) [],aF r5 (.dat (.str [110])),.cal 220 3 [] (.dat (.boo true)) [],aF r6 (.dat (.str [59])),.cal 220 3 [] (.dat (.boo true)) [],aF r7 (.dat .non),.cal 227 2 [] (.dat (.str Xa)) [],c7 r7]) (o:=.fz [13] []) (g:=cg []) (ob:=iN z r7 (.dat .non) r7∧CallOk z.c 2 227 [.top 236,.dat (.str Xa)] [] (.dat (.str Xa)) []∧aQ z r6 (.dat .non) r7∧CallOk z.c 3 220 [.top 236,.dat (.str Xa)] [] (.dat (.boo true)) []∧aQ z r5 (.dat (.str [59])) r6∧CallOk z.c 3 220 [.top 236,.dat (.str [110,111,116,105,110])] [] (.dat (.boo true)) []∧aQ z r4 (.dat (.str [110])) r5∧CallOk z.c 3 220 [.top 236,.dat (.str [110,111,116,105])] [] (.dat (.boo true)) []∧aQ z r3 (.dat (.str [105])) r4∧CallOk z.c 3 220 [.top 236,.dat (.str [110,111,116])] [] (.dat (.boo true)) []∧aQ z r2 (.dat (.str [116])) r3∧CallOk z.c 3 220 [.top 236,.dat (.str [110,111])] [] (.dat (.boo true)) []∧aQ z r1 (.dat (.str [111])) r2∧CallOk z.c 3 220 [.top 236,.dat (.str [110])] [] (.dat (.boo true)) []∧aQ z r (.dat (.str [110])) r1∧True) aE ⟨pQ,fY z (n:=0) (by kernel_rfl),h7,tN z,h6,yN z,h5,EI z,h4,EG z,h3,Ml z,h2,Ux z,h1,trivial⟩ (by kernel_rfl)) (a7.none.and true)
 |cons c l=>
  obtain⟨r1,h1,a1⟩:=aB (z:=z) a
  obtain⟨r2,h2,a2⟩:=aB (z:=z) a1
  obtain⟨r3,h3,a3⟩:=aB (z:=z) a2
  obtain⟨r4,h4,a4⟩:=aB (z:=z) a3
  obtain⟨r5,h5,a5⟩:=aB (z:=z) a4
  obtain⟨r6,h6,a6⟩:=aB (z:=z) a5
  obtain⟨r7,h7,a7⟩:=aB (z:=z) a6
  obtain⟨r8,h8,a8⟩:=aN (z:=z) a7 a6.len (.inr ⟨rfl,rfl⟩)
  exact .mk (res:=⟨true,304,.dead d,[.chr1 [8713]],(c::l),true⟩) r8 [] (.inl rfl) (z.use (hs:=[aF r1 (.dat (.str [110])),.cal 220 3 [] (.dat (.boo true)) [],aF r2 (.dat (.str [111])),.cal 220 3 [] (.dat (.boo true)) [],aF r3 (.dat (.str [116])),.cal 220 3 [] (.dat (.boo true)) [],aF r4 (.dat (.str [105])),.cal 220 3 [] (.dat (.boo true)) [],aF r5 (.dat (.str [110])),.cal 220 3 [] (.dat (.boo true)) [],aF r6 (.dat (.str [59])),.cal 220 3 [] (.dat (.boo true)) [],aF r7 (.dat (.str [c])),.cal 220 3 [] (.dat (.boo false)) [],.cal 227 2 [] (.dat (.str Xa)) [],c7 r8]) (o:=.fz [13] []) (g:=cg []) (ob:=iN z r7 (.dat (.str [c])) r8∧CallOk z.c 2 227 [.top 236,.dat (.str Xa)] [] (.dat (.str Xa)) []∧CallOk z.c 3 220 [.top 236,.dat (.str [110,111,116,105,110,59,c])] [] (.dat (.boo false)) []∧aQ z r6 (.dat (.str [c])) r7∧CallOk z.c 3 220 [.top 236,.dat (.str Xa)] [] (.dat (.boo true)) []∧aQ z r5 (.dat (.str [59])) r6∧CallOk z.c 3 220 [.top 236,.dat (.str [110,111,116,105,110])] [] (.dat (.boo true)) []∧aQ z r4 (.dat (.str [110])) r5∧CallOk z.c 3 220 [.top 236,.dat (.str [110,111,116,105])] [] (.dat (.boo true)) []∧aQ z r3 (.dat (.str [105])) r4∧CallOk z.c 3 220 [.top 236,.dat (.str [110,111,116])] [] (.dat (.boo true)) []∧aQ z r2 (.dat (.str [116])) r3∧CallOk z.c 3 220 [.top 236,.dat (.str [110,111])] [] (.dat (.boo true)) []∧aQ z r1 (.dat (.str [111])) r2∧CallOk z.c 3 220 [.top 236,.dat (.str [110])] [] (.dat (.boo true)) []∧aQ z r (.dat (.str [110])) r1∧True) aE ⟨h8,fY z (n:=0) (by kernel_rfl),AZ z,h7,tN z,h6,yN z,h5,EI z,h4,EG z,h3,Ml z,h2,Ux z,h1,trivial⟩ (by kernel_rfl)) (a8.none.and true)
theorem RY (a:At' T e E r ms ([110,111,116,33]++l)):ExR z T e E 311 (.dead d) r ⟨true,304,.dead d,[.err bA,.chr1 [172]],33::l,true⟩:=by
 obtain⟨r1,h1,a1⟩:=aB (z:=z) a
 obtain⟨r2,h2,a2⟩:=aB (z:=z) a1
 obtain⟨r3,h3,a3⟩:=aB (z:=z) a2
 obtain⟨r4,h4,a4⟩:=aB (z:=z) a3
 obtain⟨r5,h5,a5⟩:=aN (z:=z) a4 a3.len (.inr ⟨rfl,rfl⟩)
 exact .mk (res:=⟨true,304,.dead d,[.err bA,.chr1 [172]],33::l,true⟩) r5 [] (.inl rfl) (z.use (hs:=[aF r1 (.dat (.str [110])),.cal 220 3 [] (.dat (.boo true)) [],aF r2 (.dat (.str [111])),.cal 220 3 [] (.dat (.boo true)) [],aF r3 (.dat (.str [116])),.cal 220 3 [] (.dat (.boo true)) [],aF r4 (.dat (.str [33])),.cal 220 3 [] (.dat (.boo false)) [],.cal 227 2 [] (.dat (.str [110,111,116])) [],c7 r5]) (o:=.fz [12,14] []) (g:=cg []) (ob:=iN z r4 (.dat (.str [33])) r5∧CallOk z.c 2 227 [.top 236,.dat (.str [110,111,116])] [] (.dat (.str [110,111,116])) []∧CallOk z.c 3 220 [.top 236,.dat (.str [110,111,116,33])] [] (.dat (.boo false)) []∧aQ z r3 (.dat (.str [33])) r4∧CallOk z.c 3 220 [.top 236,.dat (.str [110,111,116])] [] (.dat (.boo true)) []∧aQ z r2 (.dat (.str [116])) r3∧CallOk z.c 3 220 [.top 236,.dat (.str [110,111])] [] (.dat (.boo true)) []∧aQ z r1 (.dat (.str [111])) r2∧CallOk z.c 3 220 [.top 236,.dat (.str [110])] [] (.dat (.boo true)) []∧aQ z r (.dat (.str [110])) r1∧True) aE ⟨h5,fY z (n:=0) (by kernel_rfl),Mm z,h4,EG z,h3,Ml z,h2,Ux z,h1,trivial⟩ (by kernel_rfl)) (a5.none.and true)
theorem XN (a:At' T e E r ms ([120]++l)):ExR z T e E 311 (.dead d) r ⟨true,304,.dead d,[.err bP,.chr1 [38]],120::l,true⟩:=by
 obtain⟨r1,h1,a1⟩:=aB (z:=z) a
 obtain⟨r2,h2,a2⟩:=aN (z:=z) a1 a.len (.inr ⟨rfl,rfl⟩)
 exact .mk (res:=⟨true,304,.dead d,[.err bP,.chr1 [38]],120::l,true⟩) r2 [] (.inl rfl) (z.use (hs:=[aF r1 (.dat (.str [120])),.cal 220 3 [] (.dat (.boo false)) [],.stm 255 .next (Fh r1 d [(fX,.dat .non)]),c7 r2]) (o:=.fz [12,13] []) (g:=cg []) (ob:=iN z r1 (.dat (.str [120])) r2∧RS z.c Mn.names 6 ⟨9,[],true⟩ (IP r1 d []) IN .next (Fh r1 d [(fX,.dat .non)])∧CallOk z.c 3 220 [.top 236,.dat (.str [120])] [] (.dat (.boo false)) []∧aQ z r (.dat (.str [120])) r1∧True) aE ⟨h2,RV z,XK z,h1,trivial⟩ (by kernel_rfl)) (a2.none.and true)
theorem RZ (R:RplOk z.K)(a:At' T e E r ms ([35,120,52,49,59]++l)):ExR z T e E 311 (.dead d) r ⟨true,304,.dead d,[.chr1 [65]],l,true⟩:=by
 obtain⟨r1,h1,a1⟩:=aB (z:=z) a
 obtain⟨r2,h2,a2⟩:=aB (z:=z) a1
 obtain⟨r3,h3,a3⟩:=aB (z:=z) a2
 obtain⟨r4,h4,a4⟩:=aN (z:=z) a3 a2.len (.inr ⟨rfl,rfl⟩)
 obtain⟨r5,h5,a5⟩:=aB (z:=z) a4
 obtain⟨r6,h6,a6⟩:=aB (z:=z) a5
 obtain⟨r7,h7,a7⟩:=aB (z:=z) a6
 exact .mk (res:=⟨true,304,.dead d,[.chr1 [65]],l,true⟩) r7 [] (.inl rfl) (z.use (hs:=[aF r1 (.dat (.str [35])),aF r2 (.dat (.str [120])),aF r3 (.dat (.str [52])),c7 r4,aF r5 (.dat (.str [52])),aF r6 (.dat (.str [49])),aF r7 (.dat (.str [59])),.cmp 213011045 false]) (o:=.fz [13] []) (g:=cg []) (ob:=(∀ hp,cG z.c 5 hp (compareOp (bR .isin)) jA (.dat (.int 65)) (.top 46) false hp)∧aQ z r6 (.dat (.str [59])) r7∧aQ z r5 (.dat (.str [49])) r6∧aQ z r4 (.dat (.str [52])) r5∧iN z r3 (.dat (.str [52])) r4∧aQ z r2 (.dat (.str [52])) r3∧aQ z r1 (.dat (.str [120])) r2∧aQ z r (.dat (.str [35])) r1∧True) aE ⟨fun hp=>RK z R hp,h7,h6,h5,h4,h3,h2,h1,trivial⟩ (by kernel_rfl)) (a7.none.and true)
theorem IT {n x v:Nm}{sc:Bool}(hv:v.length≤1000)(a:At' T e E r ms (Xm++l)):ExR z T e E 563 (.tag true n [(x,v)] sc) r ⟨true,563,.tag true n [(x,v++[60])] sc,[],50::l,true⟩:=by
 obtain⟨r1,h1,a1⟩:=aB (z:=z) a
 obtain⟨r2,h2,a2⟩:=aB (z:=z) a1
 obtain⟨r3,h3,a3⟩:=aB (z:=z) a2
 obtain⟨r4,h4,a4⟩:=aB (z:=z) a3
 obtain⟨r5,h5,a5⟩:=aB (z:=z) a4
 obtain⟨r6,h6,a6⟩:=aN (z:=z) a5 a4.len (.inr ⟨rfl,rfl⟩)
 exact .mk (res:=⟨true,563,.tag true n [(x,v++[60])] sc,[],50::l,true⟩) r6 [] (.inl rfl) (z.use (hs:=[aF r1 (.dat (.str [38])),aF r2 (.dat (.str [108])),.cal 220 3 [] (.dat (.boo true)) [],aF r3 (.dat (.str [116])),.cal 220 3 [] (.dat (.boo true)) [],aF r4 (.dat (.str [59])),.cal 220 3 [] (.dat (.boo true)) [],aF r5 (.dat (.str [50])),.cal 220 3 [] (.dat (.boo false)) [],.cal 227 2 [] (.dat (.str [108,116,59])) [],c7 r6]) (o:=.fz [] []) (g:=cg [(true,Nat.ble (v.length+([60]:Nm).length) lim)]) (ob:=iN z r5 (.dat (.str [50])) r6∧CallOk z.c 2 227 [.top 236,.dat (.str [108,116,59])] [] (.dat (.str [108,116,59])) []∧CallOk z.c 3 220 [.top 236,.dat (.str Xx)] [] (.dat (.boo false)) []∧aQ z r4 (.dat (.str [50])) r5∧CallOk z.c 3 220 [.top 236,.dat (.str [108,116,59])] [] (.dat (.boo true)) []∧aQ z r3 (.dat (.str [59])) r4∧CallOk z.c 3 220 [.top 236,.dat (.str [108,116])] [] (.dat (.boo true)) []∧aQ z r2 (.dat (.str [116])) r3∧CallOk z.c 3 220 [.top 236,.dat (.str [108])] [] (.dat (.boo true)) []∧aQ z r1 (.dat (.str [108])) r2∧aQ z r (.dat (.str [38])) r1∧True) (aA (d7 hv (Nat.le_refl 1) rfl) aE) ⟨h6,fY z (n:=0) (by kernel_rfl),rB z,h5,yO z,h4,IM z,h3,To z,h2,h1,trivial⟩ (by kernel_rfl)) (a6.none.and true)
theorem IU {n x v y w:Nm}{sc:Bool}(hv:w.length≤1000)(a:At' T e E r ms (Xm++l)):ExR z T e E 563 (.tag true n [(x,v),(y,w)] sc) r ⟨true,563,.tag true n [(x,v),(y,w++[60])] sc,[],50::l,true⟩:=by
 obtain⟨r1,h1,a1⟩:=aB (z:=z) a
 obtain⟨r2,h2,a2⟩:=aB (z:=z) a1
 obtain⟨r3,h3,a3⟩:=aB (z:=z) a2
 obtain⟨r4,h4,a4⟩:=aB (z:=z) a3
 obtain⟨r5,h5,a5⟩:=aB (z:=z) a4
 obtain⟨r6,h6,a6⟩:=aN (z:=z) a5 a4.len (.inr ⟨rfl,rfl⟩)
 exact .mk (res:=⟨true,563,.tag true n [(x,v),(y,w++[60])] sc,[],50::l,true⟩) r6 [] (.inl rfl) (z.use (hs:=[aF r1 (.dat (.str [38])),aF r2 (.dat (.str [108])),.cal 220 3 [] (.dat (.boo true)) [],aF r3 (.dat (.str [116])),.cal 220 3 [] (.dat (.boo true)) [],aF r4 (.dat (.str [59])),.cal 220 3 [] (.dat (.boo true)) [],aF r5 (.dat (.str [50])),.cal 220 3 [] (.dat (.boo false)) [],.cal 227 2 [] (.dat (.str [108,116,59])) [],c7 r6]) (o:=.fz [] []) (g:=cg [(true,Nat.ble (w.length+([60]:Nm).length) lim)]) (ob:=iN z r5 (.dat (.str [50])) r6∧CallOk z.c 2 227 [.top 236,.dat (.str [108,116,59])] [] (.dat (.str [108,116,59])) []∧CallOk z.c 3 220 [.top 236,.dat (.str Xx)] [] (.dat (.boo false)) []∧aQ z r4 (.dat (.str [50])) r5∧CallOk z.c 3 220 [.top 236,.dat (.str [108,116,59])] [] (.dat (.boo true)) []∧aQ z r3 (.dat (.str [59])) r4∧CallOk z.c 3 220 [.top 236,.dat (.str [108,116])] [] (.dat (.boo true)) []∧aQ z r2 (.dat (.str [116])) r3∧CallOk z.c 3 220 [.top 236,.dat (.str [108])] [] (.dat (.boo true)) []∧aQ z r1 (.dat (.str [108])) r2∧aQ z r (.dat (.str [38])) r1∧True) (aA (d7 hv (Nat.le_refl 1) rfl) aE) ⟨h6,fY z (n:=0) (by kernel_rfl),rB z,h5,yO z,h4,IM z,h3,To z,h2,h1,trivial⟩ (by kernel_rfl)) (a6.none.and true)
theorem IV {n x v:Nm}{sc:Bool}(hv:v.length≤1000)(a:At' T e E r ms (Xm++l)):ExR z T e E 570 (.tag true n [(x,v)] sc) r ⟨true,570,.tag true n [(x,v++[60])] sc,[],50::l,true⟩:=by
 obtain⟨r1,h1,a1⟩:=aB (z:=z) a
 obtain⟨r2,h2,a2⟩:=aB (z:=z) a1
 obtain⟨r3,h3,a3⟩:=aB (z:=z) a2
 obtain⟨r4,h4,a4⟩:=aB (z:=z) a3
 obtain⟨r5,h5,a5⟩:=aB (z:=z) a4
 obtain⟨r6,h6,a6⟩:=aN (z:=z) a5 a4.len (.inr ⟨rfl,rfl⟩)
 exact .mk (res:=⟨true,570,.tag true n [(x,v++[60])] sc,[],50::l,true⟩) r6 [] (.inl rfl) (z.use (hs:=[aF r1 (.dat (.str [38])),aF r2 (.dat (.str [108])),.cal 220 3 [] (.dat (.boo true)) [],aF r3 (.dat (.str [116])),.cal 220 3 [] (.dat (.boo true)) [],aF r4 (.dat (.str [59])),.cal 220 3 [] (.dat (.boo true)) [],aF r5 (.dat (.str [50])),.cal 220 3 [] (.dat (.boo false)) [],.cal 227 2 [] (.dat (.str [108,116,59])) [],c7 r6]) (o:=.fz [] []) (g:=cg [(true,Nat.ble (v.length+([60]:Nm).length) lim)]) (ob:=iN z r5 (.dat (.str [50])) r6∧CallOk z.c 2 227 [.top 236,.dat (.str [108,116,59])] [] (.dat (.str [108,116,59])) []∧CallOk z.c 3 220 [.top 236,.dat (.str Xx)] [] (.dat (.boo false)) []∧aQ z r4 (.dat (.str [50])) r5∧CallOk z.c 3 220 [.top 236,.dat (.str [108,116,59])] [] (.dat (.boo true)) []∧aQ z r3 (.dat (.str [59])) r4∧CallOk z.c 3 220 [.top 236,.dat (.str [108,116])] [] (.dat (.boo true)) []∧aQ z r2 (.dat (.str [116])) r3∧CallOk z.c 3 220 [.top 236,.dat (.str [108])] [] (.dat (.boo true)) []∧aQ z r1 (.dat (.str [108])) r2∧aQ z r (.dat (.str [38])) r1∧True) (aA (d7 hv (Nat.le_refl 1) rfl) aE) ⟨h6,fY z (n:=0) (by kernel_rfl),rB z,h5,yO z,h4,IM z,h3,To z,h2,h1,trivial⟩ (by kernel_rfl)) (a6.none.and true)
theorem IW {n x v y w:Nm}{sc:Bool}(hv:w.length≤1000)(a:At' T e E r ms (Xm++l)):ExR z T e E 570 (.tag true n [(x,v),(y,w)] sc) r ⟨true,570,.tag true n [(x,v),(y,w++[60])] sc,[],50::l,true⟩:=by
 obtain⟨r1,h1,a1⟩:=aB (z:=z) a
 obtain⟨r2,h2,a2⟩:=aB (z:=z) a1
 obtain⟨r3,h3,a3⟩:=aB (z:=z) a2
 obtain⟨r4,h4,a4⟩:=aB (z:=z) a3
 obtain⟨r5,h5,a5⟩:=aB (z:=z) a4
 obtain⟨r6,h6,a6⟩:=aN (z:=z) a5 a4.len (.inr ⟨rfl,rfl⟩)
 exact .mk (res:=⟨true,570,.tag true n [(x,v),(y,w++[60])] sc,[],50::l,true⟩) r6 [] (.inl rfl) (z.use (hs:=[aF r1 (.dat (.str [38])),aF r2 (.dat (.str [108])),.cal 220 3 [] (.dat (.boo true)) [],aF r3 (.dat (.str [116])),.cal 220 3 [] (.dat (.boo true)) [],aF r4 (.dat (.str [59])),.cal 220 3 [] (.dat (.boo true)) [],aF r5 (.dat (.str [50])),.cal 220 3 [] (.dat (.boo false)) [],.cal 227 2 [] (.dat (.str [108,116,59])) [],c7 r6]) (o:=.fz [] []) (g:=cg [(true,Nat.ble (w.length+([60]:Nm).length) lim)]) (ob:=iN z r5 (.dat (.str [50])) r6∧CallOk z.c 2 227 [.top 236,.dat (.str [108,116,59])] [] (.dat (.str [108,116,59])) []∧CallOk z.c 3 220 [.top 236,.dat (.str Xx)] [] (.dat (.boo false)) []∧aQ z r4 (.dat (.str [50])) r5∧CallOk z.c 3 220 [.top 236,.dat (.str [108,116,59])] [] (.dat (.boo true)) []∧aQ z r3 (.dat (.str [59])) r4∧CallOk z.c 3 220 [.top 236,.dat (.str [108,116])] [] (.dat (.boo true)) []∧aQ z r2 (.dat (.str [116])) r3∧CallOk z.c 3 220 [.top 236,.dat (.str [108])] [] (.dat (.boo true)) []∧aQ z r1 (.dat (.str [108])) r2∧aQ z r (.dat (.str [38])) r1∧True) (aA (d7 hv (Nat.le_refl 1) rfl) aE) ⟨h6,fY z (n:=0) (by kernel_rfl),rB z,h5,yO z,h4,IM z,h3,To z,h2,h1,trivial⟩ (by kernel_rfl)) (a6.none.and true)
end
end
section
noncomputable abbrev Mp:Nat→Bool:=cW Qh false
noncomputable def EJ (ct:CT)(l:Nm):Option Res:=match ct with
 |.dead d=>some ⟨true,304,.dead d,[.com (fI [0] [65533] 0 (l.takeWhile Mp))],(l.dropWhile Mp).tail,true⟩
 |_=>none
section
variable {z:bS}{T:Nm}{e:Bool}{E:Nat}{r:Stm}{ms l:Nm}{ct:CT}
theorem Ra (a:At' T e E r ms l):Exs z T e E 598 ct r (EJ ct l):=by
 cases ct with
 |dead d=>
  obtain⟨r1,h1,a1⟩:=dG (z:=z) (opp:=false) II a [.dat (.str [62])] (.inl ⟨rfl,rfl⟩)
  have hu:(l.takeWhile Mp).length≤15000:=eM a
  show Exs z T e E 598 (.dead d) r (some ⟨true,304,.dead d,[.com (fI [0] [65533] 0 (l.takeWhile Mp))],(l.dropWhile Mp).tail,true⟩)
  generalize l.takeWhile Mp=u at *
  generalize l.dropWhile Mp=t at *
  cases t with
  |nil=>
   obtain⟨r2,h2,a2⟩:=fM (z:=z) a1
   exact .mk r2 [] (.inl rfl) (z.use (hs:=[oM r1 u,aF r2 (.dat .non)]) (o:=.fz [9] []) (g:=cg [(true,Nat.ble u.length lim)]) (aA (Qi hu rfl) aE) (an h2 (an h1 trivial)) (by kernel_rfl)) (a2.none.and true)
  |cons c t=>
   obtain⟨r2,h2,a2⟩:=aB (z:=z) a1
   exact .mk r2 [] (.inl rfl) (z.use (hs:=[oM r1 u,aF r2 (.dat (.str [c]))]) (o:=.fz [9] []) (g:=cg [(true,Nat.ble u.length lim)]) (aA (Qi hu rfl) aE) (an h2 (an h1 trivial)) (by kernel_rfl)) (a2.none.and true)
 |_=>exact trivial
noncomputable def EK (ct:CT)(l:Nm):Option Res:=match ct with
 |.dead d=>bif nb (l.take 4) Xg then some ⟨true,304,.dead d,[.chr1 [38]],l.drop 4,true⟩
  else bif nb (l.take 6) Xa then some ⟨true,304,.dead d,[.chr1 [8713]],l.drop 6,true⟩
  else bif nb (l.take 4) [110,111,116,33]then some ⟨true,304,.dead d,[.err bA,.chr1 [172]],33::l.drop 4,true⟩
  else bif nb (l.take 5) [35,120,52,49,59]then some ⟨true,304,.dead d,[.chr1 [65]],l.drop 5,true⟩
  else bif nb (l.take 1) [120]then some ⟨true,304,.dead d,[.err bP,.chr1 [38]],120::l.drop 1,true⟩else none
 |_=>none
theorem hU {k:Nat}{w:Nm}(h:nb (l.take k) w=true):∃ t,l.drop k=t∧l=w++t:=⟨_,rfl,by rw[← bO h];exact(List.take_append_drop k l).symm⟩
theorem Rb (R:RplOk z.K)(a:At' T e E r ms l):Exs z T e E 311 ct r (EK ct l):=by
 cases ct with
 |dead d=>
  refine bC (fun t=>?_) fun _=>?_
  ·obtain⟨u,h1,h2⟩:=hU t
   rw[h1];exact RW (h2▸a)
  refine bC (fun t=>?_) fun _=>?_
  ·obtain⟨u,h1,h2⟩:=hU t
   rw[h1];exact IR (h2▸a)
  refine bC (fun t=>?_) fun _=>?_
  ·obtain⟨u,h1,h2⟩:=hU t
   rw[h1];exact RY (h2▸a)
  refine bC (fun t=>?_) fun _=>?_
  ·obtain⟨u,h1,h2⟩:=hU t
   rw[h1];exact RZ R (h2▸a)
  refine bC (fun t=>?_) fun _=>trivial
  ·obtain⟨u,h1,h2⟩:=hU t
   rw[h1];exact XN (h2▸a)
 |_=>exact trivial
noncomputable def wJ (st:Nat)(f:CT→Nm→Option Res)(ct:CT)(l:Nm):Option Res:=bif nb (l.take 5) Xm then(match ct with
 |.tag true n [(x,v)] sc=>some ⟨true,st,.tag true n [(x,v++[60])] sc,[],50::l.drop 5,true⟩
 |.tag true n [(x,v),(y,w)] sc=>some ⟨true,st,.tag true n [(x,v),(y,w++[60])] sc,[],50::l.drop 5,true⟩
 |_=>none)else f ct l
theorem Jv {st:Nat}{f:CT→Nm→Option Res}(h:Exs z T e E st ct r (f ct l))(sm:ct.Small)(a:At' T e E r ms l)
  (h1:∀ {n x v:Nm} {sc:Bool} {l:Nm},v.length≤1000→At' T e E r ms (Xm++l)→ExR z T e E st (.tag true n [(x,v)] sc) r ⟨true,st,.tag true n [(x,v++[60])] sc,[],50::l,true⟩)
  (h2:∀ {n x v y w:Nm} {sc:Bool} {l:Nm},w.length≤1000→At' T e E r ms (Xm++l)→ExR z T e E st (.tag true n [(x,v),(y,w)] sc) r ⟨true,st,.tag true n [(x,v),(y,w++[60])] sc,[],50::l,true⟩):Exs z T e E st ct r (wJ st f ct l):=by
 refine bC (fun t=>?_) fun _=>h
 obtain⟨u,q1,q2⟩:=hU t
 rw[q1]
 cases ct with
 |tag b n as sc=>
  have ha:=sm.2
  cases b with
  |false=>exact trivial
  |true=>cases as with
   |nil=>exact trivial
   |cons p as=>
    obtain⟨x,v⟩:=p
    cases as with
    |nil=>exact h1 (ha _ (.head _)).2 (q2▸a)
    |cons p as=>
     obtain⟨y,w⟩:=p
     cases as with
     |nil=>exact h2 (ha _ (.tail _ (.head _))).2 (q2▸a)
     |cons=>exact trivial
 |_=>exact trivial
noncomputable def Uz:List (Nat×(CT→Nm→Option Res)):=[(304,Do),(311,EK),(353,Dp),(360,Dq),(367,Df),(535,Dg),(542,Dh),(556,Di),(563,wJ 563 Dj),(570,wJ 570 Dk),(577,Dl),(584,Dm),(591,Dn),(598,EJ),(605,Dz),(612,DX),(619,DY),(626,DZ),(633,Da),(640,Db),(654,Dc),(661,Dd),(668,De),(675,EA)]
noncomputable def sp (st:Nat)(ct:CT)(l:Nm):Option Res:=match mX Uz st with
 |some f=>f ct l
 |none=>none
noncomputable def AllP {α:Type}(P:α→Prop):List α→Prop
 | []=>True
 |x::r=>P x∧AllP P r
theorem AllP.at {α:Type}{P:α→Prop}:∀ {l:List α} {x:α},AllP P l→x∈l→P x
 |_::_,_,h,.head _=>h.1
 |_::_,_,h,.tail _ m=>AllP.at h.2 m
theorem Jw (R:RplOk z.K){st:Nat}{res:Res}(sm:ct.Small)(a:At' T e E r ms l)(h0:sp st ct l=some res):ExR z T e E st ct r res:=by
 unfold sp at h0
 cases h:mX Uz st with
 |none=>rw[h]at h0;cases h0
 |some f=>
  rw[h]at h0
  have q:AllP (fun y=>Exs z T e E y.1 ct r (y.2 ct l)) Uz:=⟨RC sm a,Rb R a,RF sm a,RH sm a,Qr sm a,Qs sm a,Qt sm a,Qu sm a,Jv (Qv sm a) sm a IT IU,Jv (Qw sm a) sm a IV IW,Qx sm a,Qy sm a,Qz sm a,Ra a,RI sm a,Qj sm a,Qk sm a,Ql sm a,Qm sm a,Qn sm a,Qo sm a,Qp sm a,Qq sm a,RJ sm a,trivial⟩
  have w:Exs z T e E st ct r (f ct l):=q.at (fK h)
  rw[show f ct l=_ from h0]at w
  exact w
end
end
section
noncomputable abbrev dl (ds:List D):List V:=ds.map .dat
theorem R2.unmap {α β γ:Type}{R:α→β→Prop}{f:γ→α}:∀ {xs:List γ} {ys:List β},R2 R (xs.map f) ys→R2 (fun x=>R (f x)) xs ys
 | [],_,h=>h
 |_::_,_,.mk a r=>.mk a (R2.unmap r)
section
variable {c:Cx}{sc:aG}{n:Nat}{F:Fx}{hp hp1 hp2:List O}{l:Nat}{ds:List D}
theorem nO {P:Params}{W:Wd}{h:Heap}(R:Rel P W hp h)(e:hp[l]?.bind O.lstE=some (dl ds)):Rel P W (hp.set l (.dls ds)) h∧Ext W hp h W (hp.set l (.dls ds)) h:=
 R.change (c8 e) (fun _ _=>rfl) ((by rcases R.lst (c8 e)with⟨vs,n,g,d⟩;exact .mk _ g (.mk vs n (DRs.r2.mpr (R2.unmap (f:=V.dat) d))))) fun ob ob' e1 e2 f=>by rw[e1]at e2;cases e2;exact f
theorem dH {α β:Type}{t:Env→Sem α}{RR:RT β α}{b:β}(h:Run c sc n F hp t RR b hp1)(e:hp1[l]?.bind O.lstE=some (dl ds)):Run c sc n F hp t RR b (hp1.set l (.dls ds)):=fun A W s env z=>
 wpAny_mono (h A W s env z) (fun a s' p=>(by rcases p with⟨W',r,L,x⟩;exact(.mk W' (nO r e).1 ⟨L.e.trans (nO r e).2,L.g,L.o⟩ x))) fun _ _ f=>f.elim
theorem EM {f:Nat}{args:List V}{v:V}(h:CallOk c n f args hp v hp1)(e:hp1[l]?.bind O.lstE=some (dl ds)):CallOk c n f args hp v (hp1.set l (.dls ds)):=
 ⟨h.fn,fun A W s vals aa ha z hv=>codeAny_mono (h.run A W s vals aa ha z hv) fun r s' q=>(by rcases q with⟨u,p⟩;exact .mk u ((by rcases p with⟨W',r,L,x⟩;exact(.mk W' (nO r e).1 ⟨L.e.trans (nO r e).2,L.g,L.o⟩ x))))⟩
theorem pR (us:List Stmt)(env:Env):∀ ts:List Stmt,execs (ts++us) env=(do match ← execs ts env with|.next=>execs us env|f=>pure f)
 | []=>(pure_bind ..).symm
 |t::ts=>by
  rw[List.cons_append,execs_cons,execs_cons,bind_assoc]
  refine congrArg (exec t env >>= ·) (funext fun f=>?_)
  cases f with
  |next=>exact pR us env ts
  |_=>exact(pure_bind ..).symm
theorem k6 {ts us:List Stmt}{fl:Fl}(h1:RX c sc n F hp ts .next hp1)(h2:RX c sc n F hp1 us fl hp2):RX c sc n F hp (ts++us) fl hp2:=fun A W s env z=>by
 show wpAny _ _ (execs _ env) _ _ _
 rw[pR]
 exact wpAny_bind (h1.go z fun W1 f s1 z1 L1 x1=>(show f=.next from x1)▸fin L1 (h2 A W1 s1 env z1))
theorem EN {ts:List Stmt}(h1:RX c sc n F hp ts .next hp1)(g:Gc hp.length hp1 hp2):RX c sc n F hp ts .next hp2:=fun A W s env z=>
 wpAny_mono (h1.go z fun W1 f s1 z1 L1 x1=>(by rcases x0 z.a z1.a L1 g with⟨W2,z2,L2,_⟩;exact(.mk W2 z2.rel L2 x1:Post c c.FT W hp s .next hp2 f s1))) (fun _ _ q=>q) fun _ _ f=>f.elim
theorem Rc {t:Stmt}(h1:RS c sc n F hp t .next hp1)(g:Gc hp.length hp1 hp2):RS c sc n F hp t .next hp2:=fun A W s env z=>
 wpAny_mono (h1.go z fun W1 f s1 z1 L1 x1=>(by rcases x0 z.a z1.a L1 g with⟨W2,z2,L2,_⟩;exact(.mk W2 z2.rel L2 x1:Post c c.FT W hp s .next hp2 f s1))) (fun _ _ q=>q) fun _ _ f=>f.elim
theorem nP {k:Nat}{fz τ:List Nat}{hp hp':List O}{v:V}(h:gJ k fz τ (.dat .non) hp=some (v,hp')):Gc k hp hp':=.fold h
end
noncomputable def WV (t:Nm):List O:=
 [.ns [(cP,.ref 3),(cQ,.dat .non),(bD,.dat (.boo false)),(aR,.dat (.lst [])),(dS,.mth 304 1),(cR,.dat (.boo false)),(aU,.dat .non)],.ins 762 0,
  strE ⟨t,0,[],0,none,0,0,0⟩ 3 5 6,.ins 166 2,.ns [(aX,.dat (.str t)),(dR,.dat (.int 0))],.ins 73 4,.dls []]
section
variable (z:bS){t:Nm}
noncomputable abbrev XO (t:Nm):List O:=[.ns [(cP,.ref 3),(cQ,.dat .non),(bD,.dat (.boo false)),(aR,.dat (.lst [])),(dS,.mth 304 1),(cR,.dat (.boo false)),(aU,.dat .non)],.ins 762 0,
  strE ⟨t,0,[],0,none,0,0,0⟩ 3 5 6,.ins 166 2,.ns [(aX,.dat (.str t)),(dR,.dat (.int 0))],.ins 73 4,.lst []]
theorem Re:CallOk z.c 8 261 [.ref 1,.dat (.str t)] [.ns [],.ins 762 0] (.dat .non) (WV t):=
 EM (l:=6) (ds:=[]) (z.use (hp':=XO t) (hs:=[]) (o:=.fz [6,13] [3,4,8,9,12]) (g:=true) rfl trivial (by kernel_rfl)) rfl
end
end
section
noncomputable def IX:Nm:=[115,116,97,114,116]
noncomputable def Mq:Nm:=[110,111,116,101]
noncomputable def Ab:Nm:=[100,111,99,116,121,112,101]
noncomputable def aZ:Nm:=[119,114,105,116,116,101,110]
noncomputable def hV:Nm:=[109,101,97,110,116]
noncomputable def jY:Nm:=[101,110,116,114,121]
noncomputable def gR:Nm:=[114,111,119]
noncomputable def dI:Nm:=[115,99,114,105,112,116]
noncomputable def fN:Nm:=[110,117,109,98,101,114,115]
noncomputable def gS:Nm:=[115,112,111,116]
noncomputable def nQ:Nm:=[99,97,108,109]
noncomputable def jZ:Nm:=[115,112,111,116,115]
noncomputable def gT:Nm:=[102,97,117,108,116,115]
noncomputable def tO:Nm:=[100,117,101]
noncomputable def Rf:Nm:=[110]
noncomputable def rC:Nm:=[102,97,117,108,116]
noncomputable def wK:Nm:=[114,101,115,116]
noncomputable def wL:Nm:=[107,105,110,100]
noncomputable def nR:Nm:=[116,111,107,101,110,115]
noncomputable def tP:Nm:=[112,108,97,99,101,115]
noncomputable def EO:Nm:=[116,111,108,100]
noncomputable def Jx:Nm:=[103,111,116]
noncomputable def IY:Nm:=[116,111,107,101,110]
section
variable {c:Cx}{n:Nat}{hp:List O}{l:Nat}{ds:List D}
theorem Mr {P:Params}{W:Wd}{h:Heap}(R:Rel P W hp h)(e:hp[l]?.bind O.dlE=some ds):Rel P W (hp.set l (.lst (dl ds))) h∧Ext W hp h W (hp.set l (.lst (dl ds))) h:=
 R.change (mH e) (fun _ _=>rfl) ((by rcases R.dls (mH e)with⟨vs,n,g,d⟩;exact .mk _ g (.mk vs n d.vrs))) fun ob ob' e1 e2 f=>by rw[e1]at e2;cases e2;exact f
theorem rE {α β:Type}{x:Option α}{a:α}{f:∀ a,x=some a→Option β}(h:x=some a):tk x f=f a h:=by subst h;rfl
theorem EP {α β:Type}{x:Option α}{a:α}{f:∀ a,x=some a→β}{g:x=none→β}(h:x=some a):w6 x f g=f a h:=by subst h;rfl
theorem Rs.at {β:Type}{T:β→List O→Prop}(z:Rs β T){v:β}{hp:List O}(h1:z.v=v)(h2:z.hp=hp)(g:z.g=true):T v hp:=h1▸h2▸z.ok g
theorem tQ {o x:V}{xs:List V}{k:Int}(e:items o hp=some xs)(e2:uR xs k=some x)(g:c9 k=true):cG c n hp getItem c.VT o (.dat (.int k)) x hp:=by
 have h:∃ z,uT c n hp o k=some z∧z.v=x∧z.hp=hp∧z.g=c9 k:=by unfold uT;rw[EP e,rE e2];exact⟨_,rfl,rfl,rfl,rfl⟩
 exact h.elim fun z q=>z.at q.2.1 q.2.2.1 (q.2.2.2.trans g)
theorem Ms {x:V}{j:Nat}{xs:List V}{k:Int}(e:hp[l]?.bind O.lstE=some xs)(e2:oA k xs.length=some j)(g:c9 k=true):Jd c n hp (.ref l) (.dat (.int k)) x (hp.set l (.lst (xs.set j x))):=by
 have h:∃ z,Kn c n hp (.ref l) (.dat (.int k)) x=some z∧z.hp=hp.set l (.lst (xs.set j x))∧z.g=c9 k:=⟨_,(rE e).trans (rE e2),rfl,rfl⟩
 exact h.elim fun z q=>z.at rfl q.2.1 (q.2.2.trans g)
theorem yP {d:D}{j:Nat}{k:Int}(e:hp[l]?.bind O.dlE=some ds)(e2:oA k ds.length=some j)(g:c9 k=true):Jd c n hp (.ref l) (.dat (.int k)) (.dat d) (hp.set l (.dls (ds.set j d))):=fun A W s u v w z hu hv hw=>by
 have R:=Mr z.rel e
 have lt:l<hp.length:=(mH e).lt
 have at1:(hp.set l (.lst (dl ds)))[l]? =some (.lst (dl ds)):=List.getElem?_set_self lt
 have q:=Ms (c:=c) (n:=n) (hp:=hp.set l (.lst (dl ds))) (l:=l) (x:=.dat d) (j:=j) (xs:=dl ds) (k:=k) (by rw[at1];rfl) (by rw[List.length_map];exact e2) g A W s u v w ⟨z.room,R.1,z.kin,z.tk,z.fs⟩ hu hv hw
 refine wpAny_mono q (fun a s' p=>?_) fun _ _ f=>f.elim
 cases p with
 |mk W' r L x=>
  have e3:(dl ds).set j (.dat d)=dl (ds.set j d):=by rw[dl,dl,List.map_set]
  rw[List.set_set,e3]at r L
  have at2:(hp.set l (.lst (dl (ds.set j d))))[l]?.bind O.lstE=some (dl (ds.set j d)):=by rw[List.getElem?_set_self lt];rfl
  have D:=nO r at2
  rw[List.set_set]at D
  exact .mk W' D.1 ⟨(R.2.trans L.e).trans D.2,L.g,L.o⟩ x
end
inductive Item where
 |text (s:Nm)|start (n:Nm) (as:List (Nm×Nm)) (sc:Bool)|etag (n:Nm)|note (s:Nm)|doc (n:Nm)
noncomputable def Ob (as:List (Nm×Nm)):List D:=as.map fun a=>.tup [.str a.1,.str a.2]
noncomputable def Item.toD:Item→D
 |.text s=>.tup [.str aX,.str s]
 |.start n as sc=>.tup [.str IX,.str n,.lst (Ob as),.boo sc]
 |.etag n=>.tup [.str yK,.str n]
 |.note s=>.tup [.str Mq,.str s]
 |.doc n=>.tup [.str Ab,.str n,.non,.non,.boo true]
inductive Evt where
 |err (w:Nm)|ent (i:Item) (at_:Option Nm)
noncomputable def nS (x:Bool)(l:Nm):Tok→Evt
 |.err w=>.err w
 |.erv w _=>.err w
 |.chr1 s=>.ent (.text s) none
 |.chr2 s=>.ent (.text s) none
 |.com s=>.ent (.note s) (bif x then some l else none)
 |.doc n=>.ent (.doc n) (bif x then some l else none)
 |.stag n as sc=>.ent (.start n as sc) (bif x then some l else none)
 |.etag n=>.ent (.etag n) (bif x then some l else none)
noncomputable def lK (l:Item):Item→List Item
 |.text s=>match l with
  |.text t=>[.text (t++s)]
  |l=>[l,.text s]
 |it=>[l,it]
noncomputable def cS:List Item→Item→List Item
 | [],it=>[it]
 |a::r,it=>match r with
  | []=>lK a it
  |r=>a::cS r it
inductive JJ where
 |m (w a:D)|e (w b:D)|me (w a b:D)|em (w a b:D)|ew (w b:D)|ewm (w a b:D)
noncomputable def JJ.l:JJ→List (Nm×V)
 |.m w a=>[(aZ,.dat w),(hV,.dat a)]
 |.e w b=>[(aZ,.dat w),(jY,.dat b)]
 |.me w a b=>[(aZ,.dat w),(hV,.dat a),(jY,.dat b)]
 |.em w a b=>[(aZ,.dat w),(jY,.dat b),(hV,.dat a)]
 |.ew w b=>[(jY,.dat b),(aZ,.dat w)]
 |.ewm w a b=>[(jY,.dat b),(aZ,.dat w),(hV,.dat a)]
structure Fr where
 sD:D
 nD:D
 tx:Nm
 sp:D
 ca:D
 ss:D
 fs:D
 ds:D
 n:D
 r:D
 f:D
 j:JJ
noncomputable def Fr.wj (f:Fr)(j:JJ):Fr:=⟨f.sD,f.nD,f.tx,f.sp,f.ca,f.ss,f.fs,f.ds,f.n,f.r,f.f,j⟩
noncomputable def VA (w a b:D):List JJ:=[.m w a,.e w b,.me w a b,.em w a b,.ew w b,.ewm w a b]
theorem Mt:∀ j:JJ,∃ w a b,j∈VA w a b
 |.m w a=>⟨w,a,a,.head _⟩
 |.e w b=>⟨w,b,b,.tail _ (.head _)⟩
 |.me w a b=>⟨w,a,b,.tail _ (.tail _ (.head _))⟩
 |.em w a b=>⟨w,a,b,.tail _ (.tail _ (.tail _ (.head _)))⟩
 |.ew w b=>⟨w,b,b,.tail _ (.tail _ (.tail _ (.tail _ (.head _))))⟩
 |.ewm w a b=>⟨w,a,b,.tail _ (.tail _ (.tail _ (.tail _ (.tail _ (.head _)))))⟩
section
variable {α:Type}
noncomputable def jF (F:JJ→α)(w a b:D):List α:=(VA w a b).map F
noncomputable def jG (F:JJ→α)(w a b:D):List α:=(VA w a b).map F
theorem tR {F G:JJ→α}(h:jF F=jG G)(j:JJ):F j=G j:=(by rcases Mt j with⟨w,a,b,m⟩;exact List.map_inj_left.mp (congrFun (congrFun (congrFun h w) a) b) j m)
noncomputable def qA (F:Fr→Option D→α)(f:Fr)(d:D)(j:JJ):α×α:=(F (f.wj j) none,F (f.wj j) (some d))
noncomputable def qF (F:Fr→Option D→α)(f:Fr)(d:D):D→D→D→List (α×α):=jF (qA F f d)
noncomputable def qG (F:Fr→Option D→α)(f:Fr)(d:D):D→D→D→List (α×α):=jG (qA F f d)
theorem fO {F G:Fr→Option D→α}(h:qF F=qG G)(f:Fr)(ro:Option D):F f ro=G f ro:=
 have q:=fun d=>tR (congrFun (congrFun h f) d) f.j
 match ro with
 |none=>congrArg (·.1) (q .non)
 |some d=>congrArg (·.2) (q d)
noncomputable def rF (F:Fr→α)(f:Fr):D→D→D→List α:=jF fun j=>F (f.wj j)
noncomputable def rG (F:Fr→α)(f:Fr):D→D→D→List α:=jG fun j=>F (f.wj j)
theorem Rg {F G:Fr→α}(h:rF F=rG G)(f:Fr):F f=G f:=tR (F:=fun j=>F (f.wj j)) (G:=fun j=>G (f.wj j)) (congrFun h f) f.j
noncomputable def oF (F:Option JJ→α):α×(D→D→D→List α):=(F none,jF fun j=>F (some j))
noncomputable def oG (F:Option JJ→α):α×(D→D→D→List α):=(F none,jG fun j=>F (some j))
theorem tS {F G:Option JJ→α}(h:oF F=oG G)(v:Option JJ):F v=G v:=match v with
 |none=>congrArg (·.1) h
 |some j=>tR (F:=fun j=>F (some j)) (G:=fun j=>G (some j)) (congrArg (·.2) h) j
noncomputable def kF (F:Nat→Option JJ→α):=(oF (F 0),oF (F 1))
noncomputable def kG (F:Nat→Option JJ→α):=(oG (F 0),oG (F 1))
theorem Mu {F G:Nat→Option JJ→α}(h:kF F=kG G){k:Nat}{v:Option JJ}(hk:k=0∨k=1):F k v=G k v:=hk.elim (· ▸ tS (congrArg (·.1) h) v) (· ▸ tS (congrArg (·.2) h) v)
noncomputable def nF (n:Nat)(F:Nat→α):List α:=(List.range n).map F
noncomputable def nG (n:Nat)(F:Nat→α):List α:=(List.range n).map F
theorem lQ {F G:Nat→α}{n i:Nat}(h:nF n F=nG n G)(lt:i<n):F i=G i:=List.map_inj_left.mp h i (List.mem_range.mpr lt)
theorem allR {F G:Nat→D→Nm→α}{n i:Nat}{d:D}{x:Nm}(h:nF n F=nG n G)(lt:i<n):F i d x=G i d x:=congrFun (congrFun (lQ h lt) d) x
noncomputable def WW (P:Nat→Prop):Nat→Prop
 |0=>True
 |n+1=>WW P n∧P n
theorem Rh {P:Nat→Prop}:∀ {n i:Nat},WW P n→i<n→P i
 |_+1,_,h,lt=>(Nat.lt_or_eq_of_le (Nat.le_of_lt_succ lt)).elim (fun q=>Rh h.1 q) fun q=>q▸h.2
noncomputable def bF (F:Bool→α):α×α:=(F true,F false)
noncomputable def bG (F:Bool→α):α×α:=(F true,F false)
theorem Ac {F G:Bool→α}(h:bF F=bG G)(b:Bool):F b=G b:=match b with
 |true=>congrArg (·.1) h
 |false=>congrArg (·.2) h
end
noncomputable def aK:Fn:=kS iU [31] []
noncomputable def Ri:Option D→List (Nm×V)
 |none=>[]
 |some d=>[(gR,.dat d)]
noncomputable def Fr.l (f:Fr)(k:D)(ro:Option D):List (Nm×V):=
 [(dI,.dat f.sD),(fN,.dat f.nD),(aX,.dat (.str f.tx)),(gS,.dat f.sp),(nQ,.dat f.ca),(jZ,.dat f.ss),(gT,.dat f.fs),(tO,.dat f.ds),(Rf,.dat f.n),(rC,.dat f.f),(wK,.dat f.r),(wL,.dat k)]++f.j.l++
 [(nR,.ref 6),(tP,.ref 4),(EO,.ref 3),(Jx,.ref 2)]++Ri ro
noncomputable def kD:CT→V
 |.dead d=>.dat d
 |_=>.ref 14
noncomputable def VB (a:Nm×Nm):O:=.lst [.dat (.str a.1),.dat (.str a.2)]
structure Q4 where
 a:O
 b:O
 c:O
 d:O
noncomputable def VC (b:Bool)(n:Nm)(sc:Bool)(l:Nat):O:=.ns (match b with
 |true=>[(d6,.dat (.int 3)),(fE,.dat (.str n)),(dF,.ref l),(bL,.dat (.boo sc)),(bB,.dat (.boo false))]
 |false=>[(d6,.dat (.int 4)),(fE,.dat (.str n)),(dF,.ref l),(bL,.dat (.boo sc))])
noncomputable def j0:CT→Q4
 |.dead _=>⟨.gone,.gone,.gone,.gone⟩
 |.com s=>⟨Tn (Mh s),.gone,.gone,.gone⟩
 |.doc n=>⟨Tn (Mi n),.gone,.gone,.gone⟩
 |.tag b n as sc=>match as with
  | []=>⟨VC b n sc 15,.lst [],.gone,.gone⟩
  | [p]=>⟨VC b n sc 15,.lst [.ref 16],VB p,.gone⟩
  |p::q::_=>⟨VC b n sc 15,.lst [.ref 16,.ref 17],VB p,VB q⟩
noncomputable def uJ (q:List Tok):List V:=q.map fun t=>.dat t.toD
noncomputable def CL (fr:List (Nm×V))(cv:Option V)(got told pl:List D)(r:Stm)(st:Nat)(c:V)(Q:List V)(o:Q4):List O:=
 [.fr fr,.cel cv,.dls got,.dls told,.dls pl,
  .ns [(cP,.ref 8),(cQ,.dat .non),(bD,.dat (.boo false)),(aR,.dat (.lst [])),(dS,.mth st 6),(cR,.dat (.boo false)),(aU,c),(cJ,.ref 13)],.ins 762 5,
  strE r 8 10 11,.ins 166 7,.ns [(aX,.dat (.str r.text)),(dR,.dat (.int r.place))],.ins 73 9,.dls (qZ r.er),.fr [(d5,.ref 6)],.lst Q,o.a,o.b,o.c,o.d]
noncomputable def gI:GenX:=Ue (kS iU AN.2 []).body
noncomputable def gN:aG:=(kS iU AN.2 []).names
noncomputable def wM:ForI:=Hf (fG aK.body 7)
noncomputable abbrev GF:Fx:=⟨12,[],false⟩
noncomputable abbrev eF:Fx:=⟨0,[(IY,1)],true⟩
section
variable (z:bS){fr:List (Nm×V)}{cv:Option V}{got told pl:List D}{r:Stm}{st:Nat}{c:V}{Q:List V}{o:Q4}
theorem Mw {σ:List Nat}{b:Bool}{hpS:List O}(hin:Kd σ [.ref 6] (CL fr cv got told pl r st c Q o)=true)(h:CallOk z.c 8 st ([V.ref 6].map (V.ren (kr σ))) (kept σ (CL fr cv got told pl r st c Q o)) (.dat (.boo b)) hpS):
  RB z.c gN 8 GF (CL fr cv got told pl r st c Q o) gI.t.t1 b (dU σ (CL fr cv got told pl r st c Q o) hpS):=
 z.useT (hs:=[.nxt 8 σ (.dat (.boo b)) hpS]) (g:=cg [(true,Kd σ [.ref 6] (CL fr cv got told pl r st c Q o))]) (aA hin aE) (an h trivial) (by kernel_rfl)
noncomputable abbrev Stm.at0 (r:Stm)(k:Nat):Stm:=⟨r.text,r.place,r.chunk,r.off,r.buf,r.ln,r.cl,k⟩
theorem VD:RB z.c gN 8 GF (CL fr cv got told pl (r.at0 0) st c Q o) gI.t.t2 false (CL fr cv got told pl (r.at0 0) st c Q o):=z.useT (hs:=[]) (g:=true) rfl trivial (by kernel_rfl)
theorem VE {k:Nat}(h:Nat.ble (k+1) lim=true):RB z.c gN 8 GF (CL fr cv got told pl (r.at0 (k+1)) st c Q o) gI.t.t2 true (CL fr cv got told pl (r.at0 (k+1)) st c Q o):=by
 rw[← q4 k]at h
 unfold CL
 rw[show qZ (r.at0 (k+1)).er=.str aI::qZ k from rfl]
 generalize qZ k=X at *
 rw[← List.length_map (f:=V.dat)]at h
 exact z.useT (hs:=[]) (g:=cg [(true,Nat.ble ((X.map V.dat).length+1) lim)]) (aA h aE) trivial (by kernel_rfl)
noncomputable abbrev Tp:O:=.ns [(d6,.dat (.int 7)),(dF,.dat (.str aI))]
theorem Mx {k:Nat}(h:Nat.ble (k+1) lim=true):RE z.c gN 8 GF (CL fr cv got told pl (r.at0 (k+1)) st c Q o) gI.t.e2 (.ref 18) (CL fr cv got told pl (r.at0 k) st c Q o++[Tp]):=by
 rw[← q4 k]at h
 unfold CL
 rw[show qZ (r.at0 (k+1)).er=.str aI::qZ k from rfl,show qZ (r.at0 k).er=qZ k from rfl]
 generalize qZ k=X at *
 exact z.useE (hs:=[]) (g:=cg [(true,Nat.ble (X.length+1) lim)]) (aA h aE) trivial (by kernel_rfl)
theorem VF:RB z.c gN 8 GF (CL fr cv got told pl r st c [] o) gI.t.t3 false (CL fr cv got told pl r st c [] o):=z.useT (hs:=[]) (g:=true) rfl trivial (by kernel_rfl)
theorem VG {d:V}(h:Nat.ble (Q.length+1) lim=true):RB z.c gN 8 GF (CL fr cv got told pl r st c (d::Q) o) gI.t.t3 true (CL fr cv got told pl r st c (d::Q) o):=z.useT (hs:=[]) (g:=cg [(true,Nat.ble (Q.length+1) lim)]) (aA h aE) trivial (by kernel_rfl)
theorem Rj {d:V}(h:Nat.ble (Q.length+1) lim=true):RE z.c gN 8 GF (CL fr cv got told pl r st c (d::Q) o) gI.t.e3 d (CL fr cv got told pl r st c Q o):=z.useE (hs:=[]) (g:=cg [(true,Nat.ble (Q.length+1) lim)]) (aA h aE) trivial (by kernel_rfl)
end
end
section
theorem k7 {α β γ:Type}{f:α→β→γ}{a a':α}{b b':β}(h:a=a')(k:b=b'):f a b=f a' b':=by subst h;subst k;rfl
section
variable {P:Nat→Bool}{r:Nat→V}{k:Nat→Nat}(h:∀ l,P l=true→r l=.ref l∧k l=l)
include h
theorem V.fix:∀ {v:V},v.cl P=true→v.mp r k=v
 |.ref _,c=>(h _ c).1
 |.mth f _,c=>congrArg (V.mth f) (h _ c).2
 |.dat _,_|.top _,_|.blt _,_|.typ _,_|.rng _ _,_=>rfl
theorem Vs.fix:∀ {vs:List V},vs.all (V.cl P)=true→vs.map (V.mp r k)=vs
 | [],_=>rfl
 |_::_,c=>k7 (f:=List.cons) (V.fix h (Bool.and_eq_true_iff.mp c).1) (Vs.fix (Bool.and_eq_true_iff.mp c).2)
theorem Es.fix:∀ {es:List (Nm×V)},(es.all fun x=>x.2.cl P)=true→OU r k es=es
 | [],_=>rfl
 |(x,_)::_,c=>k7 (f:=List.cons) (congrArg (Prod.mk x) (V.fix h (Bool.and_eq_true_iff.mp c).1)) (Es.fix (Bool.and_eq_true_iff.mp c).2)
theorem O.fix:∀ {o:O},o.cl P=true→o.mp r k=o
 |.lst _,c=>congrArg O.lst (Vs.fix h c)
 |.tup _,c=>congrArg O.tup (Vs.fix h c)
 |.ns _,c=>congrArg O.ns (Es.fix h c)
 |.fr _,c=>congrArg O.fr (Es.fix h c)
 |.cel none,_=>rfl
 |.cel (some _),c=>congrArg (fun v=>O.cel (some v)) (V.fix h c)
 |.ins _ _,c=>congrArg (O.ins _) (h _ c).2
 |.dls _,_=>rfl
 |.gone,_=>rfl
theorem Os.fix:∀ {os:List O},os.all (O.cl P)=true→os.map (O.mp r k)=os
 | [],_=>rfl
 |_::_,c=>k7 (f:=List.cons) (O.fix h (Bool.and_eq_true_iff.mp c).1) (Os.fix (Bool.and_eq_true_iff.mp c).2)
end
theorem V.cl_imp {P Q:Nat→Bool}(h:∀ l,P l=true→Q l=true):∀ {v:V},v.cl P=true→v.cl Q=true
 |.ref _,c=>h _ c
 |.mth _ _,c=>h _ c
 |.dat _,_|.top _,_|.blt _,_|.typ _,_|.rng _ _,_=>rfl
theorem O.cl_imp {P Q:Nat→Bool}(h:∀ l,P l=true→Q l=true):∀ {o:O},o.cl P=true→o.cl Q=true
 |.lst _,c=>List.all_eq_true.mpr fun x m=>V.cl_imp h (List.all_eq_true.mp c x m)
 |.tup _,c=>List.all_eq_true.mpr fun x m=>V.cl_imp h (List.all_eq_true.mp c x m)
 |.ns _,c=>List.all_eq_true.mpr fun x m=>V.cl_imp h (List.all_eq_true.mp c x m)
 |.fr _,c=>List.all_eq_true.mpr fun x m=>V.cl_imp h (List.all_eq_true.mp c x m)
 |.cel none,_=>rfl
 |.cel (some _),c=>V.cl_imp h c
 |.ins _ _,c=>h _ c
 |.dls _,_=>rfl
 |.gone,_=>rfl
noncomputable def My (l:Nat):Bool:=Nat.blt l 13
noncomputable def cC (l:Nat):Bool:=Nat.blt l 18
theorem fZ {a b:Nat}(h:Nat.blt a b=true):a<b:=Nat.le_of_ble_eq_true h
noncomputable abbrev ks:List Nat:=[0,1,2,3,4,5,6,7,8,9,10,11,12,13,14,15,16,17]
theorem EQ:∀ l<18,dT ks l=true∧kr ks l=l:=by decide+kernel
theorem ES {H J:List O}(hl:H.length=18)(hc:H.all (O.cl cC)=true):mK 13 Xo (.dat .non) (H++J)=some (.dat .non,H):=by
 have e0:List.range 13++Xo=ks:=by decide
 have at_:∀ l,l<18→(H++J)[l]?.getD .gone=H[l]?.getD .gone:=fun l q=>by rw[List.getElem?_append_left (by lia)]
 have mem:∀ l,l<18→∃ o,H[l]? =some o∧o.cl cC=true:=fun l q=>by
  have q:l<H.length:=by lia
  exact⟨H[l],List.getElem?_eq_getElem q,List.all_eq_true.mp hc _ (List.getElem_mem q)⟩
 unfold mK
 rw[e0]
 have c:e9 ks (H++J)=true:=List.all_eq_true.mpr fun l m=>by
  have ll:l<18:=(by decide:∀ l∈ks,l<18) l m
  obtain⟨o,e,q⟩:=mem l ll
  rw[at_ l ll,e]
  exact O.cl_imp (fun i w=>(EQ i (fZ w)).1) q
 rw[c,show Fk ks=true by decide+kernel]
 show some (V.dat .non,kept ks (H++J))=_
 congr 2
 refine List.ext_getElem? fun l=>?_
 unfold kept
 rw[List.getElem?_map]
 by_cases ll:l<18
 ·obtain⟨o,e,q⟩:=mem l ll
  rw[show ks[l]? =some l from(by decide:∀ l<18,ks[l]? =some l) l ll,e]
  show some ((((H++J)[l]?.getD .gone)).ren _)=_
  rw[at_ l ll,e]
  exact congrArg some (O.fix (P:=cC) (fun i w=>⟨congrArg V.ref (EQ i (fZ w)).2,(EQ i (fZ w)).2⟩) q)
 ·rw[List.getElem?_eq_none (by show 18≤l;lia),List.getElem?_eq_none (by lia)];rfl
theorem Rk {H J:List O}(hl:H.length=18)(hc:H.all (O.cl cC)=true):mK 18 [] (.dat .non) (H++J)=some (.dat .non,H):=ES hl hc
theorem VH {a o:O}{R J:List O}{d:D}(hl:R.length=16)(hc:(a::R).all (O.cl cC)=true)(hd:O.dt o=some d):Gc 13 (a::.cel (some (.ref 18))::R++o::J) (a::.cel (some (.dat d))::R):=by
 refine .fold (fz:=[18]) (τ:=Xo) (v:=.dat .non) ?_
 have e1:(a::.cel (some (.ref 18))::R++o::J)[18]? =some o:=by rw[List.getElem?_append_right (by simp[hl])];simp[hl]
 have e2:((a::.cel (some (.ref 18))::R++o::J).set 18 .gone)=a::.cel (some (.ref 18))::R++.gone::J:=by rw[List.set_append_right _ _ (by simp[hl])];simp[hl]
 have fx:=Os.fix (r:=sb 18 d) (k:=id) (P:=cC) (fun l w=>⟨by unfold sb;rw[nI (Nat.ne_of_lt (fZ w))],rfl⟩) hc
 show((p5 18 _).bind _).bind _=_
 unfold p5
 rw[e1]
 show((O.dt o).bind _).bind _=_
 rw[hd]
 show mK 13 Xo (.dat .non) (((a::.cel (some (.ref 18))::R++o::J).set 18 .gone).map _)=_
 rw[e2,List.map_append]
 have e3:(a::O.cel (some (.ref 18))::R).map (O.mp (sb 18 d) id)=a::.cel (some (.dat d))::R:=k7 (f:=List.cons) (List.cons.inj fx).1 (k7 (f:=List.cons) rfl (List.cons.inj fx).2)
 rw[e3]
 have hc':=Bool.and_eq_true_iff.mp (hc:(a.cl cC&&R.all (O.cl cC))=true)
 exact ES (by simp[hl]) (by show(a.cl cC&&(true&&R.all (O.cl cC)))=true;rw[hc'.1,hc'.2];rfl)
noncomputable def oO (got told pl:List D)(r:Stm)(st:Nat)(c:V)(oQ:O)(o:Q4):List O:=
 [.dls got,.dls told,.dls pl,
  .ns [(cP,.ref 8),(cQ,.dat .non),(bD,.dat (.boo false)),(aR,.dat (.lst [])),(dS,.mth st 6),(cR,.dat (.boo false)),(aU,c),(cJ,.ref 13)],.ins 762 5,
  strE r 8 10 11,.ins 166 7,.ns [(aX,.dat (.str r.text)),(dR,.dat (.int r.place))],.ins 73 9,.dls (qZ r.er),.fr [(d5,.ref 6)],oQ,o.a,o.b,o.c,o.d]
noncomputable def Lo (o:O):Prop:=o.cl My=true
theorem rH (f:Nat→Bool):∀ a:List Tok,(uJ a).all (V.cl f)=true
 | []=>rfl
 |_::r=>rH f r
theorem ET (l:Nat)(h:My l=true):cC l=true:=Nat.ble_eq_true_of_le (Nat.le_trans (fZ h) (by decide))
theorem Jy {got told pl:List D}{r:Stm}{st:Nat}{ct:CT}{q:List Tok}:(oO got told pl r st (kD ct) (.lst (uJ q)) (j0 ct)).all (O.cl cC)=true:=by
 have a:=rH cC q
 generalize uJ q=Q at *
 have e:∀ c o,(oO got told pl r st c (.lst Q) o).all (O.cl cC)=((c.cl cC&&true)&&(Q.all (V.cl cC)&&(o.a.cl cC&&(o.b.cl cC&&(o.c.cl cC&&(o.d.cl cC&&true)))))):=fun c o=>by kernel_rfl
 rw[e,a]
 cases ct with
 |tag b n as sc=>
  match as with
  | []=>cases b <;>rfl
  | [_]=>cases b <;>rfl
  |_::_::_=>cases b <;>rfl
 |_=>rfl
end
section
inductive Tr:CT→CT→Prop
 |dd (a b:D):Tr (.dead a) (.dead b)
 |dc (a:D) (s:Nm):Tr (.dead a) (.com s)
 |dx (a:D) (s:Nm):Tr (.dead a) (.doc s)
 |dt (a:D) (b:Bool) (n:Nm) (sc:Bool):Tr (.dead a) (.tag b n [] sc)
 |cc (s t:Nm):Tr (.com s) (.com t)
 |cd (s:Nm) (a:D):Tr (.com s) (.dead a)
 |xx (s t:Nm):Tr (.doc s) (.doc t)
 |xd (s:Nm) (a:D):Tr (.doc s) (.dead a)
 |t00 (b:Bool) (n:Nm) (sc:Bool) (b':Bool) (n':Nm) (sc':Bool):Tr (.tag b n [] sc) (.tag b' n' [] sc')
 |t01 (b:Bool) (n:Nm) (sc:Bool) (b':Bool) (n':Nm) (sc':Bool) (p:Nm×Nm):Tr (.tag b n [] sc) (.tag b' n' [p] sc')
 |t11 (b:Bool) (n:Nm) (sc:Bool) (b':Bool) (n':Nm) (sc':Bool) (p p':Nm×Nm):Tr (.tag b n [p] sc) (.tag b' n' [p'] sc')
 |t12 (b:Bool) (n:Nm) (sc:Bool) (b':Bool) (n':Nm) (sc':Bool) (p p' q':Nm×Nm):Tr (.tag b n [p] sc) (.tag b' n' [p',q'] sc')
 |t22 (b:Bool) (n:Nm) (sc:Bool) (b':Bool) (n':Nm) (sc':Bool) (p q p' q':Nm×Nm):Tr (.tag b n [p,q] sc) (.tag b' n' [p',q'] sc')
 |t0d (b:Bool) (n:Nm) (sc:Bool) (a:D):Tr (.tag b n [] sc) (.dead a)
 |t1d (b:Bool) (n:Nm) (sc:Bool) (p:Nm×Nm) (a:D):Tr (.tag b n [p] sc) (.dead a)
 |t2d (b:Bool) (n:Nm) (sc:Bool) (p q:Nm×Nm) (a:D):Tr (.tag b n [p,q] sc) (.dead a)
noncomputable def Mz (ct ct':CT):Option (PLift (Tr ct ct')):=match ct,ct' with
 |.dead a,.dead b=>some ⟨.dd a b⟩
 |.dead a,.com s=>some ⟨.dc a s⟩
 |.dead a,.doc s=>some ⟨.dx a s⟩
 |.dead a,.tag b n [] sc=>some ⟨.dt a b n sc⟩
 |.com s,.com t=>some ⟨.cc s t⟩
 |.com s,.dead a=>some ⟨.cd s a⟩
 |.doc s,.doc t=>some ⟨.xx s t⟩
 |.doc s,.dead a=>some ⟨.xd s a⟩
 |.tag b n [] sc,.tag b' n' [] sc'=>some ⟨.t00 b n sc b' n' sc'⟩
 |.tag b n [] sc,.tag b' n' [p] sc'=>some ⟨.t01 b n sc b' n' sc' p⟩
 |.tag b n [p] sc,.tag b' n' [p'] sc'=>some ⟨.t11 b n sc b' n' sc' p p'⟩
 |.tag b n [p] sc,.tag b' n' [p',q'] sc'=>some ⟨.t12 b n sc b' n' sc' p p' q'⟩
 |.tag b n [p,q] sc,.tag b' n' [p',q'] sc'=>some ⟨.t22 b n sc b' n' sc' p q p' q'⟩
 |.tag b n [] sc,.dead a=>some ⟨.t0d b n sc a⟩
 |.tag b n [p] sc,.dead a=>some ⟨.t1d b n sc p a⟩
 |.tag b n [p,q] sc,.dead a=>some ⟨.t2d b n sc p q a⟩
 |_,_=>none
noncomputable abbrev s8 (l:List Nat):List Nat:=[6,5,8,7,10,9,13,11]++l
noncomputable def yQ:CT→List Nat
 |.dead _=>s8 []
 |.com _=>s8 [14]
 |.doc _=>s8 [14]
 |.tag _ _ as _=>match as with
  | []=>s8 [14,15]
  | [_]=>s8 [14,15,16]
  |_=>s8 [14,15,16,17]
noncomputable def VI (r:Stm)(st:Nat)(ct:CT)(oQ:O):List O:=
 [.ins 762 1,.ns [(cP,.ref 2),(cQ,.dat .non),(bD,.dat (.boo false)),(aR,.dat (.lst [])),(dS,.mth st 0),(cR,.dat (.boo false)),(aU,WR ct),(cJ,.ref 6)],
  .ins 166 3,strE r 2 4 7,.ins 73 5,.ns [(aX,.dat (.str r.text)),(dR,.dat (.int r.place))],oQ,.dls (qZ r.er)]++Uu ct
structure Tv where
 a:D
 b:D
 s:Nm
 u:Nm
 n:Nm
 n':Nm
 sc:Bool
 sc':Bool
 p:Nm×Nm
 q:Nm×Nm
 p':Nm×Nm
 q':Nm×Nm
noncomputable def VJ (v:Tv):List (CT×CT):=[(.dead v.a,.dead v.b),(.dead v.a,.com v.s),(.dead v.a,.doc v.s),(.com v.s,.com v.u),(.com v.s,.dead v.a),(.doc v.s,.doc v.u),(.doc v.s,.dead v.a)]
noncomputable def Rl (v:Tv)(b:Bool):List (CT×CT):=[(.dead v.a,.tag b v.n [] v.sc),(.tag b v.n [] v.sc,.dead v.a),(.tag b v.n [v.p] v.sc,.dead v.a),(.tag b v.n [v.p,v.q] v.sc,.dead v.a)]
noncomputable def NA (v:Tv)(b b':Bool):List (CT×CT):=[(.tag b v.n [] v.sc,.tag b' v.n' [] v.sc'),(.tag b v.n [] v.sc,.tag b' v.n' [v.p] v.sc'),(.tag b v.n [v.p] v.sc,.tag b' v.n' [v.p'] v.sc'),(.tag b v.n [v.p] v.sc,.tag b' v.n' [v.p',v.q'] v.sc'),(.tag b v.n [v.p,v.q] v.sc,.tag b' v.n' [v.p',v.q'] v.sc')]
section
variable {α:Type}
noncomputable def pT (F:CT→CT→List O→α)(x:CT×CT):α×α:=(F x.1 x.2 [],F x.1 x.2 (gone x.1))
noncomputable def VK (F:CT→CT→List O→α)(v:Tv):=((VJ v).map (pT F),(bF fun b=>(Rl v b).map (pT F)),bF fun b=>bF fun b'=>(NA v b b').map (pT F))
noncomputable def VL (F:CT→CT→List O→α)(v:Tv):=((VJ v).map (pT F),(bG fun b=>(Rl v b).map (pT F)),bG fun b=>bG fun b'=>(NA v b b').map (pT F))
theorem Jz {F G:CT→CT→List O→α}(h:VK F=VL G){ct ct':CT}{g:List O}(t:Tr ct ct')(hg:g=[]∨g=gone ct):F ct ct' g=G ct ct' g:=
 have k0:∀ v x,x∈VJ v→pT F x=pT G x:=fun v=>List.map_inj_left.mp (congrArg (·.1) (congrFun h v))
 have k1:∀ v b x,x∈Rl v b→pT F x=pT G x:=fun v b=>List.map_inj_left.mp (Ac (F:=fun b=>(Rl v b).map (pT F)) (G:=fun b=>(Rl v b).map (pT G)) (congrArg (·.2.1) (congrFun h v)) b)
 have k2:∀ v b b' x,x∈NA v b b'→pT F x=pT G x:=fun v b b'=>List.map_inj_left.mp (Ac (F:=fun b'=>(NA v b b').map (pT F)) (G:=fun b'=>(NA v b b').map (pT G)) (Ac (F:=fun b=>bF fun b'=>(NA v b b').map (pT F)) (G:=fun b=>bG fun b'=>(NA v b b').map (pT G)) (congrArg (·.2.2) (congrFun h v)) b) b')
 have q:pT F (ct,ct')=pT G (ct,ct'):=by
  cases t with
  |dd a b=>exact k0 ⟨a,b,[],[],[],[],true,true,([],[]),([],[]),([],[]),([],[])⟩ _ (.head _)
  |dc a s=>exact k0 ⟨a,a,s,[],[],[],true,true,([],[]),([],[]),([],[]),([],[])⟩ _ (.tail _ (.head _))
  |dx a s=>exact k0 ⟨a,a,s,[],[],[],true,true,([],[]),([],[]),([],[]),([],[])⟩ _ (.tail _ (.tail _ (.head _)))
  |cc s u=>exact k0 ⟨.non,.non,s,u,[],[],true,true,([],[]),([],[]),([],[]),([],[])⟩ _ (.tail _ (.tail _ (.tail _ (.head _))))
  |cd s a=>exact k0 ⟨a,a,s,s,[],[],true,true,([],[]),([],[]),([],[]),([],[])⟩ _ (.tail _ (.tail _ (.tail _ (.tail _ (.head _)))))
  |xx s u=>exact k0 ⟨.non,.non,s,u,[],[],true,true,([],[]),([],[]),([],[]),([],[])⟩ _ (.tail _ (.tail _ (.tail _ (.tail _ (.tail _ (.head _))))))
  |xd s a=>exact k0 ⟨a,a,s,s,[],[],true,true,([],[]),([],[]),([],[]),([],[])⟩ _ (.tail _ (.tail _ (.tail _ (.tail _ (.tail _ (.tail _ (.head _)))))))
  |dt a b n sc=>exact k1 ⟨a,a,[],[],n,n,sc,sc,([],[]),([],[]),([],[]),([],[])⟩ b _ (.head _)
  |t0d b n sc a=>exact k1 ⟨a,a,[],[],n,n,sc,sc,([],[]),([],[]),([],[]),([],[])⟩ b _ (.tail _ (.head _))
  |t1d b n sc p a=>exact k1 ⟨a,a,[],[],n,n,sc,sc,p,p,p,p⟩ b _ (.tail _ (.tail _ (.head _)))
  |t2d b n sc p q a=>exact k1 ⟨a,a,[],[],n,n,sc,sc,p,q,p,q⟩ b _ (.tail _ (.tail _ (.tail _ (.head _))))
  |t00 b n sc b' n' sc'=>exact k2 ⟨.non,.non,[],[],n,n',sc,sc',([],[]),([],[]),([],[]),([],[])⟩ b b' _ (.head _)
  |t01 b n sc b' n' sc' p=>exact k2 ⟨.non,.non,[],[],n,n',sc,sc',p,p,p,p⟩ b b' _ (.tail _ (.head _))
  |t11 b n sc b' n' sc' p p'=>exact k2 ⟨.non,.non,[],[],n,n',sc,sc',p,p,p',p'⟩ b b' _ (.tail _ (.tail _ (.head _)))
  |t12 b n sc b' n' sc' p p' q'=>exact k2 ⟨.non,.non,[],[],n,n',sc,sc',p,p,p',q'⟩ b b' _ (.tail _ (.tail _ (.tail _ (.head _))))
  |t22 b n sc b' n' sc' p q p' q'=>exact k2 ⟨.non,.non,[],[],n,n',sc,sc',p,q,p',q'⟩ b b' _ (.tail _ (.tail _ (.tail _ (.tail _ (.head _)))))
 hg.elim (· ▸ congrArg (·.1) q) (· ▸ congrArg (·.2) q)
end
structure Dt (o:O):Prop where
 cl:∀ f,o.cl f=true
 ren:∀ k,o.ren k=o
theorem NB (q:List Tok):Dt (.lst (uJ q)):=⟨fun f=>rH f q,fun k=>congrArg O.lst (by
 induction q with
 |nil=>rfl
 |cons t q ih=>exact congrArg (_::·) ih)⟩
section
variable {o0 o1 oQ:O}{got told pl:List D}{r r1:Stm}{st st':Nat}{ct ct':CT}{c':V}{q':Q4}
noncomputable abbrev iO (τ:List Nat):List Nat:=List.range 13++τ
theorem Rm (τ:List Nat){hp:List O}{k:Nat→Nat}(h0:Lo o0)(h1:Lo o1)(hq:Dt oQ)(hs:∀ l<13,dT (iO τ) l=true∧kr (iO τ) l=l)(nd:Fk (iO τ)=true)
  (e1:e9 (iO τ) hp=(o0.cl (dT (iO τ))&&(o1.cl (dT (iO τ))&&((oQ.ren k).cl (dT (iO τ))&&true))))(e2:kept (iO τ) hp=o0.ren (kr (iO τ))::o1.ren (kr (iO τ))::oO got told pl r1 st' c' ((oQ.ren k).ren (kr (iO τ))) q'):
  Gc 13 hp (o0::o1::oO got told pl r1 st' c' oQ q'):=by
 have fx:∀ o,Lo o→o.ren (kr (iO τ))=o:=fun o h=>O.fix (P:=My) (fun l w=>⟨congrArg V.ref (hs l (fZ w)).2,(hs l (fZ w)).2⟩) h
 have cl:∀ o,Lo o→o.cl (dT (iO τ))=true:=fun o h=>O.cl_imp (fun l w=>(hs l (fZ w)).1) h
 rw[cl o0 h0,cl o1 h1,hq.ren,hq.cl]at e1
 rw[fx o0 h0,fx o1 h1,hq.ren,hq.ren]at e2
 refine .fold (fz:=[]) (τ:=τ) (v:=.dat .non) ?_
 show(match Fk (iO τ)&&((V.dat D.non).cl (dT (iO τ))&&e9 (iO τ) hp)with|true=>_|false=>_)=_
 rw[nd,e1]
 show some (V.dat .non,kept _ _)=_
 rw[e2]
noncomputable def τF:CT→CT→List Nat
 |.dead _,.com _=>[13,18,15,16,17]
 |.dead _,.doc _=>[13,18,15,16,17]
 |.dead _,.tag .. =>[13,18,19,16,17]
 |.tag _ _ as _,.tag _ _ as' _=>match as,as' with
  | [],[_]=>[13,14,15,18,17]
  | [_],[_,_]=>[13,14,15,16,18]
  |_,_=>Xo
 |_,_=>Xo
theorem NC:VK (fun ct ct' g=>(((List.range 13).map fun l=>(dT (iO (τF ct ct')) l,kr (iO (τF ct ct')) l)),Fk (iO (τF ct ct')),e9 (iO (τF ct ct')) (dU (yQ ct) (o0::o1::oO got told pl r st (kD ct) (.lst []) (j0 ct)) (VI r1 st' ct' oQ++g)),kept (iO (τF ct ct')) (dU (yQ ct) (o0::o1::oO got told pl r st (kD ct) (.lst []) (j0 ct)) (VI r1 st' ct' oQ++g))))
  =VL fun ct ct' _=>(((List.range 13).map fun l=>(true,l)),true,(o0.cl (dT (iO (τF ct ct')))&&(o1.cl (dT (iO (τF ct ct')))&&((oQ.ren (rn (yQ ct) 18)).cl (dT (iO (τF ct ct')))&&true))),o0.ren (kr (iO (τF ct ct')))::o1.ren (kr (iO (τF ct ct')))::oO got told pl r1 st' (kD ct') ((oQ.ren (rn (yQ ct) 18)).ren (kr (iO (τF ct ct')))) (j0 ct')):=by kernel_rfl
theorem ND (h0:Lo o0)(h1:Lo o1)(hq:Dt oQ)(t:Tr ct ct'){g:List O}(hg:g=[]∨g=gone ct):
  Gc 13 (dU (yQ ct) (o0::o1::oO got told pl r st (kD ct) (.lst []) (j0 ct)) (VI r1 st' ct' oQ++g)) (o0::o1::oO got told pl r1 st' (kD ct') oQ (j0 ct')):=
 have q:=Jz NC t hg
 have e:(List.range 13).map (fun l=>(dT (iO (τF ct ct')) l,kr (iO (τF ct ct')) l))=(List.range 13).map fun l=>(true,l):=congrArg (·.1) q
 Rm (τF ct ct') (k:=rn (yQ ct) 18) h0 h1 hq (fun l lt=>have w:=List.map_inj_left.mp e l (List.mem_range.mpr lt);⟨congrArg (·.1) w,congrArg (·.2) w⟩) (congrArg (·.2.1) q) (congrArg (·.2.2.1) q) (congrArg (·.2.2.2) q)
theorem EU (h:(Mz ct ct').isSome=true):Tr ct ct':=match Mz ct ct',h with
 |some ⟨t⟩,_=>t
theorem Rn:VK (fun ct _ _=>(Kd (yQ ct) [.ref 6] (o0::o1::oO got told pl r st (kD ct) (.lst []) (j0 ct)),kept (yQ ct) (o0::o1::oO got told pl r st (kD ct) (.lst []) (j0 ct)),[V.ref 6].map (V.ren (kr (yQ ct)))))=VL fun ct _ _=>(true,TL r st ct [],[.ref 0]):=by kernel_rfl
theorem Ro (t:Tr ct ct'):Kd (yQ ct) [.ref 6] (o0::o1::oO got told pl r st (kD ct) (.lst []) (j0 ct))=true∧kept (yQ ct) (o0::o1::oO got told pl r st (kD ct) (.lst []) (j0 ct))=TL r st ct []∧[V.ref 6].map (V.ren (kr (yQ ct)))=[.ref 0]:=
 have q:=Jz Rn t (.inl rfl)
 ⟨congrArg (·.1) q,congrArg (·.2.1) q,congrArg (·.2.2) q⟩
end
section
variable {z:bS}{fr:List (Nm×V)}{cv:Option V}{got told pl:List D}{r:Stm}{st:Nat}{ct:CT}{T:Nm}{x:Bool}{E:Nat}
theorem yR {res:Res}(h0:Lo (.fr fr))(h1:Lo (.cel cv))(t:Tr ct res.ct)(e:ExR z T x E st ct r res):∃ r1 hp1,At' T (x&&res.ex) E r1 [] res.rest∧RB z.c gN 8 GF (CL fr cv got told pl r st (kD ct) [] (j0 ct)) gI.t.t1 res.more hp1∧Gc 13 hp1 (CL fr cv got told pl r1 res.st (kD res.ct) (uJ res.out) (j0 res.ct)):=by
 rcases e with⟨r1,g,hg,h,a⟩
 exact by
  obtain⟨i1,i2,i3⟩:=Ro (o0:=.fr fr) (o1:=.cel cv) (got:=got) (told:=told) (pl:=pl) (r:=r) (st:=st) t
  refine⟨r1,_,a,Mw z (Q:=[]) (o:=j0 ct) (σ:=yQ ct) i1 (i3.symm ▸ (show CallOk z.c 8 st [.ref 0] (kept (yQ ct) (.fr fr::.cel cv::oO got told pl r st (kD ct) (.lst []) (j0 ct))) _ _ from i2.symm▸h)),ND h0 h1 (NB _) t hg⟩
end
end
section
noncomputable def gU:Nm:=Xi
noncomputable def WX:Nm:=[98]
noncomputable def Rp:Stmt→List Stmt
 |.If _ b _ _=>b
 |_=>[]
noncomputable def VM:List Stmt:=Ju (fG (Ju (fG wM.b 1)) 0)
noncomputable def NE:Stmt:=fG (Rp (fG VM 1)) 0
noncomputable abbrev Rt (n:Nm)(as:List (Nm×D))(sc:Bool):D:=.dct [(d6,.int 3),(fE,.str n),(dF,.dct as),(bL,.boo sc),(bB,.boo false)]
noncomputable abbrev dY (r:Stm):D:=.tup [.int (r.pos.1+1),.int r.pos.2]
noncomputable abbrev yS (z:bS)(hp hp':List O):Prop:=RX z.c aK.names 13 eF hp wM.b .next hp'
noncomputable abbrev yT (r:Stm):Hi:=.cal 126 2 [8,7,10,9,11] (.dat (dY r)) (SL r)
noncomputable abbrev tT (z:bS)(r:Stm):Prop:=CallOk z.c 2 126 [.ref 0] (SL r) (.dat (dY r)) (SL r)
section
variable (z:bS){f:Fr}{k:D}{ro:Option D}{got told pl:List D}{r:Stm}{st:Nat}{c:V}{Q:List V}{o:Q4}
theorem Ru (h:Nat.ble told.length lim=true):yS z (CL (f.l k ro) (some (.ref 18)) got told pl r st c Q o++[Tp]) (CL (f.l (.int 7) ro) (some (.ref 18)) got (told++[.str aI]) pl r st c Q o++[Tp]):=
 z.useX (hs:=[]) (g:=cg [(true,Nat.ble told.length lim)]) (aA h aE) trivial (by apply fO (f:=f) (ro:=ro);kernel_rfl)
theorem Rv {w:Nm}(h:Nat.ble told.length lim=true):yS z (CL (f.l k ro) (some (.dat (tW 7 w))) got told pl r st c Q o) (CL (f.l (.int 7) ro) (some (.dat (tW 7 w))) got (told++[.str w]) pl r st c Q o):=
 z.useX (hs:=[]) (g:=cg [(true,Nat.ble told.length lim)]) (aA h aE) trivial (by apply fO (f:=f) (ro:=ro);kernel_rfl)
theorem Rw {w:Nm}{d:D}(h:Nat.ble told.length lim=true):yS z (CL (f.l k ro) (some (.dat (Tok.erv w d).toD)) got told pl r st c Q o) (CL (f.l (.int 7) ro) (some (.dat (Tok.erv w d).toD)) got (told++[.str w]) pl r st c Q o):=
 z.useX (hs:=[]) (g:=cg [(true,Nat.ble told.length lim)]) (aA h aE) trivial (by apply fO (f:=f) (ro:=ro);kernel_rfl)
theorem Rx {w:Nm}(h:Nat.ble pl.length lim=true)(h2:Nat.ble got.length lim=true)(hp:tT z r):yS z (CL (f.l k ro) (some (.dat (Tok.com w).toD)) got told pl r st c Q o) (CL (f.l (.int 6) ro) (some (.dat (Tok.com w).toD)) (got++[(Item.note w).toD]) told (pl++[dY r]) r st c Q o):=
 z.useX (hs:=[yT r]) (g:=cg [(true,Nat.ble got.length lim),(true,Nat.ble pl.length lim)]) (aA h2 (aA h aE)) (an hp trivial) (by apply fO (f:=f) (ro:=ro);kernel_rfl)
theorem Ry {w:Nm}(h:Nat.ble pl.length lim=true)(h2:Nat.ble got.length lim=true)(hp:tT z r):yS z (CL (f.l k ro) (some (.dat (Tok.doc w).toD)) got told pl r st c Q o) (CL (f.l (.int 0) ro) (some (.dat (Tok.doc w).toD)) (got++[(Item.doc w).toD]) told (pl++[dY r]) r st c Q o):=
 z.useX (hs:=[yT r]) (g:=cg [(true,Nat.ble got.length lim),(true,Nat.ble pl.length lim)]) (aA h2 (aA h aE)) (an hp trivial) (by apply fO (f:=f) (ro:=ro);kernel_rfl)
theorem Rz {w:Nm}(h:Nat.ble pl.length lim=true)(h2:Nat.ble got.length lim=true)(hp:tT z r):yS z (CL (f.l k ro) (some (.dat (Tok.etag w).toD)) got told pl r st c Q o) (CL (f.l (.int 4) ro) (some (.dat (Tok.etag w).toD)) (got++[(Item.etag w).toD]) told (pl++[dY r]) r st c Q o):=
 z.useX (hs:=[yT r]) (g:=cg [(true,Nat.ble got.length lim),(true,Nat.ble pl.length lim)]) (aA h2 (aA h aE)) (an hp trivial) (by apply fO (f:=f) (ro:=ro);kernel_rfl)
theorem NF {i:Int}{x:Nm}(hi:i=1∨i=2):yS z (CL (f.l k ro) (some (.dat (tW i x))) [] told pl r st c Q o) (CL (f.l (.int i) ro) (some (.dat (tW i x))) [(Item.text x).toD] told pl r st c Q o):=by
 rcases hi with rfl|rfl <;>exact z.useX (hs:=[]) (g:=true) rfl trivial (by apply fO (f:=f) (ro:=ro);kernel_rfl)
theorem IZ {i:Int}{t x:Nm}{j:Nat}(hi:i=1∨i=2)(hb:Nat.ble (dl got).length lim=true)(hn:rU (dl got)=true)(ha:uR (dl got) (-1)=some (.dat (Item.text t).toD))(hj:oA (-1) got.length=some j)(hc:Nat.ble (t.length+x.length) lim=true):
  yS z (CL (f.l k ro) (some (.dat (tW i x))) got told pl r st c Q o) (CL (f.l (.int i) ro) (some (.dat (tW i x))) (got.set j (Item.text (t++x)).toD) told pl r st c Q o):=by
 have hO:cG z.c 13 (CL (f.l (.int i) ro) (some (.dat (tW i x))) got told pl r st c Q o) getItem z.c.VT (.ref 2) (.dat (.int (-1))) (.dat (Item.text t).toD) (CL (f.l (.int i) ro) (some (.dat (tW i x))) got told pl r st c Q o):=tQ rfl ha rfl
 have hS:Jd z.c 13 (CL (f.l (.int i) ro) (some (.dat (tW i x))) got told pl r st c Q o) (.ref 2) (.dat (.int (-1))) (.dat (Item.text (t++x)).toD) (CL (f.l (.int i) ro) (some (.dat (tW i x))) (got.set j (Item.text (t++x)).toD) told pl r st c Q o):=yP (hp:=CL (f.l (.int i) ro) (some (.dat (tW i x))) got told pl r st c Q o) (l:=2) rfl hj rfl
 rcases hi with rfl|rfl
 ·exact z.useX (hs:=[.tst 1256015018 true,.itm 1256023030 (.dat (Item.text t).toD),.itm 1257035042 (.dat (Item.text t).toD),.set (CL (f.l (.int 1) ro) (some (.dat (tW 1 x))) (got.set j (Item.text (t++x)).toD) told pl r st c Q o)])
   (g:=cg [(true,Nat.ble (t.length+x.length) lim),(true,rU (dl got)),(true,Nat.ble (dl got).length lim)]) (aA hc (aA hn (aA hb aE))) (an hS (an hO (an hO trivial))) (by apply fO (f:=f) (ro:=ro);kernel_rfl)
 ·exact z.useX (hs:=[.tst 1256015018 true,.itm 1256023030 (.dat (Item.text t).toD),.itm 1257035042 (.dat (Item.text t).toD),.set (CL (f.l (.int 2) ro) (some (.dat (tW 2 x))) (got.set j (Item.text (t++x)).toD) told pl r st c Q o)])
   (g:=cg [(true,Nat.ble (t.length+x.length) lim),(true,rU (dl got)),(true,Nat.ble (dl got).length lim)]) (aA hc (aA hn (aA hb aE))) (an hS (an hO (an hO trivial))) (by apply fO (f:=f) (ro:=ro);kernel_rfl)
theorem Ia {i:Int}{x m:Nm}{ds:List D}(hi:i=1∨i=2)(hb:Nat.ble (dl got).length lim=true)(hb2:Nat.ble got.length lim=true)(hn:rU (dl got)=true)(ha:uR (dl got) (-1)=some (.dat (.tup (.str m::ds))))(hm:nb m aX=false):
  yS z (CL (f.l k ro) (some (.dat (tW i x))) got told pl r st c Q o) (CL (f.l (.int i) ro) (some (.dat (tW i x))) (got++[(Item.text x).toD]) told pl r st c Q o):=by
 have hO:cG z.c 13 (CL (f.l (.int i) ro) (some (.dat (tW i x))) got told pl r st c Q o) getItem z.c.VT (.ref 2) (.dat (.int (-1))) (.dat (.tup (.str m::ds))) (CL (f.l (.int i) ro) (some (.dat (tW i x))) got told pl r st c Q o):=tQ rfl ha rfl
 rcases hi with rfl|rfl
 ·exact z.useX (hs:=[.tst 1256015018 true,.itm 1256023030 (.dat (.tup (.str m::ds))),.tst 1256023043 false])
   (g:=cg [(true,Nat.ble got.length lim),(false,nb m aX),(true,rU (dl got)),(true,Nat.ble (dl got).length lim)]) (aA hb2 (aA hm (aA hn (aA hb aE)))) (an hO trivial) (by apply fO (f:=f) (ro:=ro);kernel_rfl)
 ·exact z.useX (hs:=[.tst 1256015018 true,.itm 1256023030 (.dat (.tup (.str m::ds))),.tst 1256023043 false])
   (g:=cg [(true,Nat.ble got.length lim),(false,nb m aX),(true,rU (dl got)),(true,Nat.ble (dl got).length lim)]) (aA hb2 (aA hm (aA hn (aA hb aE)))) (an hO trivial) (by apply fO (f:=f) (ro:=ro);kernel_rfl)
noncomputable abbrev SA (f:Fr)(v:V):List (Nm×V):=f.l (.int 3) none++[(gR,v)]
theorem NG {es:List (Nm×V)}{R J:List O}{ds:List D}(hl:R.length=17)(hc:(O.fr es::R).all (O.cl cC)=true):Gc 18 (.fr (es++[(gR,.ref 18)])::R++.lst (dl ds)::J) (.fr (es++[(gR,.dat (.lst ds))])::R):=by
 refine .fold (fz:=[18]) (τ:=[]) (v:=.dat .non) ?_
 have e1:(O.fr (es++[(gR,.ref 18)])::R++.lst (dl ds)::J)[18]? =some (.lst (dl ds)):=by rw[List.getElem?_append_right (by simp[hl])];simp[hl]
 have e2:((O.fr (es++[(gR,.ref 18)])::R++.lst (dl ds)::J).set 18 .gone)=.fr (es++[(gR,.ref 18)])::R++.gone::J:=by rw[List.set_append_right _ _ (by simp[hl])];simp[hl]
 have hd:p4 (dl ds)=some ds:=by
  clear hc e1 e2
  induction ds with
  |nil=>rfl
  |cons d ds ih=>show(p4 (dl ds)).map _=_;rw[ih];rfl
 have q:=fun l (w:cC l=true)=>(⟨by unfold sb;rw[nI (Nat.ne_of_lt (fZ w))],rfl⟩:sb 18 (.lst ds) l=.ref l∧id l=l)
 have hc2:=Bool.and_eq_true_iff.mp (hc:((O.fr es).cl cC&&R.all (O.cl cC))=true)
 have fx:=Os.fix (r:=sb 18 (.lst ds)) (k:=id) (P:=cC) q hc2.2
 have fe:=Es.fix (r:=sb 18 (.lst ds)) (k:=id) (P:=cC) q hc2.1
 show((p5 18 _).bind _).bind _=_
 unfold p5
 rw[e1]
 show(((p4 (dl ds)).map Tk.D.lst).bind _).bind _=_
 rw[hd]
 show mK 18 [] (.dat .non) (((O.fr (es++[(gR,.ref 18)])::R++.lst (dl ds)::J).set 18 .gone).map _)=_
 rw[e2,List.map_append]
 have e3:(O.fr (es++[(gR,.ref 18)])::R).map (O.mp (sb 18 (.lst ds)) id)=.fr (es++[(gR,.dat (.lst ds))])::R:=k7 (f:=List.cons) (by
  show O.fr (OU _ _ (es++_))=_
  unfold OU at fe ⊢
  rw[List.map_append,fe];rfl) fx
 rw[e3]
 exact Rk (by simp[hl]) (by
  show((O.fr _).cl cC&&R.all (O.cl cC))=true
  rw[hc2.2,Bool.and_true]
  show(es++_).all _=true
  rw[List.all_append,show(es.all fun x=>x.2.cl cC)=true from hc2.1];rfl)
theorem NH {d:D}{ds:List D}(h:RS z.c aK.names 13 eF (CL (f.l (.int 3) ro) (some (.dat d)) got told pl r st c Q o) NE .next (CL (SA f (.ref 18)) (some (.dat d)) got told pl r st c Q o++[.lst (dl ds),.gone]))(hc:(oO got told pl r st c (.lst Q) o).all (O.cl cC)=true):
  RS z.c aK.names 13 eF (CL (f.l (.int 3) ro) (some (.dat d)) got told pl r st c Q o) NE .next (CL (f.l (.int 3) (some (.lst ds))) (some (.dat d)) got told pl r st c Q o):=by
 have e:f.l (.int 3) (some (.lst ds))=SA f (.dat (.lst ds)):=by
  show f.l (.int 3) (some (.lst ds))=f.l (.int 3) none++_
  unfold Fr.l Ri
  rw[List.append_nil]
 rw[e]
 refine Rc h ?_
 exact NG (R:=.cel (some (.dat d))::oO got told pl r st c (.lst Q) o) (J:=[.gone]) rfl (by
  show((O.fr (f.l (.int 3) none)).cl cC&&(true&&(oO got told pl r st c (.lst Q) o).all _))=true
  rw[hc,show(O.fr (f.l (.int 3) none)).cl cC=true by obtain⟨_,_,_,_,_,_,_,_,_,_,_,j⟩:=f;cases j <;>rfl];rfl)
noncomputable def NI:List (Nm×Nm)→Bool
 | []=>true
 | [p]=>nb p.1 gU
 | [p,q]=>nb p.1 gU&&nb q.1 WX
 |_=>false
theorem SD {n:Nm}{as:List (Nm×Nm)}{sc:Bool}(h:NI as=true)(hc:(oO got told pl r st c (.lst Q) o).all (O.cl cC)=true):
  RS z.c aK.names 13 eF (CL (f.l (.int 3) ro) (some (.dat (Rt n (OZ as) sc))) got told pl r st c Q o) NE .next (CL (f.l (.int 3) (some (.lst (Ob as)))) (some (.dat (Rt n (OZ as) sc))) got told pl r st c Q o):=by
 refine NH z ?_ hc
 match as,h with
 | [],_=>exact z.useS (hs:=[]) (g:=true) rfl trivial (by apply fO (f:=f) (ro:=ro);kernel_rfl)
 | [(p,v)],h=>
  cases bO (h:nb p gU=true)
  exact z.useS (hs:=[]) (g:=true) rfl trivial (by apply fO (f:=f) (ro:=ro);kernel_rfl)
 | [(p,v),(q,w)],h=>
  have h:=Bool.and_eq_true_iff.mp (h:(nb p gU&&nb q WX)=true)
  cases bO h.1
  cases bO h.2
  exact z.useS (hs:=[]) (g:=true) rfl trivial (by apply fO (f:=f) (ro:=ro);kernel_rfl)
theorem Ib {n:Nm}{as:List (Nm×Nm)}{sc:Bool}(ha:NI as=true)(h:Nat.ble pl.length lim=true)(h2:Nat.ble got.length lim=true)(hp:tT z r)(hc:(oO got told (pl++[dY r]) r st c (.lst Q) o).all (O.cl cC)=true):
  yS z (CL (f.l k ro) (some (.dat (Rt n (OZ as) sc))) got told pl r st c Q o) (CL (f.l (.int 3) (some (.lst (Ob as)))) (some (.dat (Rt n (OZ as) sc))) (got++[(Item.start n as sc).toD]) told (pl++[dY r]) r st c Q o):=by
 have q:=SD z (f:=f) (ro:=ro) (n:=n) (sc:=sc) ha hc
 generalize OZ as=A at *
 unfold Item.toD
 generalize Ob as=P at *
 exact z.useX (hs:=[yT r,.stm 1263 .next (CL (f.l (.int 3) (some (.lst P))) (some (.dat (Rt n A sc))) got told (pl++[dY r]) r st c Q o)]) (g:=cg [(true,Nat.ble got.length lim),(true,Nat.ble pl.length lim)]) (aA h2 (aA h aE)) (an q (an hp trivial)) (by apply fO (f:=f) (ro:=ro);kernel_rfl)
end
end
section
theorem SE {a b:Bool}(h:a=true)(k:b=true):(a&&b)=true:=by rw[h,k];rfl
noncomputable def Item.len:Item→Nat
 |.text s=>s.length
 |_=>0
noncomputable def cT:List Item→Nat
 | []=>0
 |i::r=>i.len+cT r
noncomputable def cD (row:List Item):List Item→List Item
 | []=>row
 |i::r=>cD (cS row i) r
noncomputable abbrev rD (row:List Item):List D:=row.map Item.toD
inductive Last:List Item→Prop
 |none:Last []
 |some (a:List Item) (l:Item):Last (a++[l])
theorem hW:∀ row:List Item,Last row
 | []=>.none
 |a::r=>match r,hW r with
  |_,.none=>.some [] a
  |_,.some b l=>.some (a::b) l
theorem cL (l it:Item):∀ a:List Item,cS (a++[l]) it=a++lK l it
 | []=>rfl
 |b::r=>by
  have h:=cL l it r
  cases r with
  |nil=>exact congrArg (b::·) h
  |cons c r=>exact congrArg (b::·) h
theorem fP:∀ a b:List Item,cT (a++b)=cT a+cT b
 | [],b=>(Nat.zero_add _).symm
 |i::r,b=>by show i.len+cT (r++b)=i.len+cT r+cT b;rw[fP r b,Nat.add_assoc]
theorem EW (l it:Item):cT (lK l it)=l.len+it.len∧(lK l it).length≤2:=by
 have h2:∀ a b:Item,cT [a,b]=a.len+b.len:=fun a b=>rfl
 cases it with
 |text s=>cases l with
  |text t=>exact⟨by show(t++s).length+0=t.length+s.length;rw[List.length_append];rfl,Nat.le_succ _⟩
  |_=>exact⟨h2 _ _,Nat.le_refl _⟩
 |_=>exact⟨h2 _ _,Nat.le_refl _⟩
theorem tU (row:List Item)(it:Item):cT (cS row it)=cT row+it.len∧(cS row it).length≤row.length+1:=match row,hW row with
 |_,.none=>⟨by show it.len+0=0+it.len;lia,Nat.le_refl _⟩
 |_,.some a l=>by
  have j:=EW l it
  rw[cL,fP,fP,j.1,List.length_append,List.length_append]
  exact⟨by show cT a+(l.len+it.len)=cT a+(l.len+0)+it.len;lia,by show _≤a.length+1+1;lia⟩
structure Fits (row more:List Item):Prop where
 a:cT row+cT more≤90000
 b:row.length+more.length≤90000
theorem Fits.next {row r:List Item}{i:Item}(h:Fits row (i::r)):Fits (cS row i) r:=by
 have q:=tU row i
 have a:cT row+(i.len+cT r)≤90000:=h.a
 have b:row.length+(r.length+1)≤90000:=h.b
 exact⟨by lia,by lia⟩
theorem hY {n:Nat}(h:n≤90000):Nat.ble n lim=true:=Nat.ble_eq_true_of_le (Nat.le_trans h (Nat.le_of_ble_eq_true rfl))
theorem gV {row:List Item}{it:Item}(h:∀ l,lK l it=[l,it]):cS row it=row++[it]:=match row,hW row with
 |_,.none=>rfl
 |_,.some a l=>by rw[cL,h,List.append_assoc];rfl
theorem bX (row:List Item)(it:Item):rD (row++[it])=rD row++[it.toD]:=List.map_append ..
structure NoText (l:Item) where
 k:Nm
 ds:List D
 e:l.toD=.tup (.str k::ds)
 n:nb k aX=false
 j:∀ x,lK l (.text x)=[l,.text x]
noncomputable def EX:∀ l:Item,(∀ s,l≠.text s)→NoText l
 |.text s,h=>absurd rfl (h s)
 |.start ..,_=>⟨_,_,rfl,rfl,fun _=>rfl⟩
 |.etag _,_=>⟨_,_,rfl,rfl,fun _=>rfl⟩
 |.note _,_=>⟨_,_,rfl,rfl,fun _=>rfl⟩
 |.doc ..,_=>⟨_,_,rfl,rfl,fun _=>rfl⟩
theorem j2 (xs:List D)(x:D):uR (dl (xs++[x])) (-1)=some (.dat x):=by
 rw[dl,List.map_append];exact jT (xs.map V.dat) (.dat x)
theorem j3 (xs:List D)(x:D):rU (dl (xs++[x]))=true:=by cases xs <;>rfl
structure Acc where
 k:D
 ro:Option D
 cv:Option D
 row:List Item
 told:List Nm
 pl:List D
noncomputable def AL (f:Fr)(a:Acc)(r:Stm)(st:Nat)(c:V)(Q:List V)(o:Q4):List O:=CL (f.l a.k a.ro) (a.cv.map V.dat) (rD a.row) (a.told.map Tk.D.str) a.pl r st c Q o
noncomputable def Acc.tok (a:Acc)(r:Stm):Tok→Acc
 |.err w=>⟨.int 7,a.ro,some (Tok.err w).toD,a.row,a.told++[w],a.pl⟩
 |.erv w d=>⟨.int 7,a.ro,some (Tok.erv w d).toD,a.row,a.told++[w],a.pl⟩
 |.chr1 x=>⟨.int 1,a.ro,some (Tok.chr1 x).toD,cS a.row (.text x),a.told,a.pl⟩
 |.chr2 x=>⟨.int 2,a.ro,some (Tok.chr2 x).toD,cS a.row (.text x),a.told,a.pl⟩
 |.com s=>⟨.int 6,a.ro,some (Tok.com s).toD,cS a.row (.note s),a.told,a.pl++[dY r]⟩
 |.doc n=>⟨.int 0,a.ro,some (Tok.doc n).toD,cS a.row (.doc n),a.told,a.pl++[dY r]⟩
 |.stag n as sc=>⟨.int 3,some (.lst (Ob as)),some (Tok.stag n as sc).toD,cS a.row (.start n as sc),a.told,a.pl++[dY r]⟩
 |.etag n=>⟨.int 4,a.ro,some (Tok.etag n).toD,cS a.row (.etag n),a.told,a.pl++[dY r]⟩
noncomputable def gW:Tok→Bool
 |.stag _ as _=>NI as
 |_=>true
noncomputable def NJ:Tok→List Item
 |.err _=>[]
 |.erv _ _=>[]
 |.chr1 x=>[.text x]
 |.chr2 x=>[.text x]
 |.com s=>[.note s]
 |.doc n=>[.doc n]
 |.stag n as sc=>[.start n as sc]
 |.etag n=>[.etag n]
section
variable (z:bS){f:Fr}{r:Stm}{st:Nat}{c:V}{Q:List V}{o:Q4}
theorem KA {a:Acc}{i:Int}{k:D}{x:Nm}(hi:i=1∨i=2)(hf:Fits a.row [.text x]):yS z (CL (f.l k a.ro) (some (.dat (tW i x))) (rD a.row) (a.told.map Tk.D.str) a.pl r st c Q o) (CL (f.l (.int i) a.ro) (some (.dat (tW i x))) (rD (cS a.row (.text x))) (a.told.map Tk.D.str) a.pl r st c Q o):=by
 obtain⟨k',ro,cv,row,told,pl⟩:=a
 have hf:Fits row [.text x]:=hf
 show yS z (CL (f.l k ro) _ (rD row) (told.map _) pl r st c Q o) (CL (f.l (.int i) ro) _ (rD (cS row (.text x))) _ pl r st c Q o)
 match row,hW row,hf with
 |_,.none,hf=>exact NF z hi
 |_,.some b l,hf=>
  have hl:(rD (b++[l])).length≤90000:=by rw[List.length_map];have:=hf.b;lia
  have hb:Nat.ble (dl (rD (b++[l]))).length lim=true:=hY (by rw[List.length_map];exact hl)
  rw[cL,bX]
  rw[bX]at hl hb
  by_cases w:∀ s,l≠.text s
  ·have q:=EX l w
   rw[q.j,show b++[l,.text x]=(b++[l])++[.text x] by simp,bX,bX]
   have ha:=j2 (rD b) l.toD
   have hn:=j3 (rD b) l.toD
   rw[q.e]at ha hn hb hl ⊢
   exact Ia z hi hb (hY hl) hn ha q.n
  ·obtain⟨t,rfl⟩:∃ t,l=.text t:=Classical.byContradiction fun q=>w fun s e=>q ⟨s,e⟩
   have hc:Nat.ble (t.length+x.length) lim=true:=hY (by
    have:=hf.a
    rw[fP]at this
    have this:cT b+(t.length+0)+(x.length+0)≤90000:=this
    lia)
   have q:=IZ z (f:=f) (ro:=ro) (told:=told.map Tk.D.str) (pl:=pl) (r:=r) (st:=st) (c:=c) (Q:=Q) (o:=o) (k:=k) hi hb (j3 _ _) (j2 (rD b) _) (j:=(rD b).length) (by rw[List.length_append];rfl) hc
   rw[List.set_append_right _ _ (Nat.le_refl _),Nat.sub_self]at q
   show yS z _ (CL _ _ (rD (b++[.text (t++x)])) _ _ _ _ _ _ _)
   rw[bX]
   exact q
theorem NK {a:Acc}{k:D}{tk:Tok}(ht:gW tk=true)(hf:Fits a.row (NJ tk))(hr:a.row.length≤90000)(h1:a.told.length≤90000)(h2:a.pl.length≤90000)(hp:tT z r)(hc:∀ got told pl,(oO got told pl r st c (.lst Q) o).all (O.cl cC)=true):
  yS z (CL (f.l k a.ro) (some (.dat tk.toD)) (rD a.row) (a.told.map Tk.D.str) a.pl r st c Q o) (AL f (a.tok r tk) r st c Q o):=by
 have b1:Nat.ble (a.told.map Tk.D.str).length lim=true:=hY (by rw[List.length_map];exact h1)
 have b2:Nat.ble a.pl.length lim=true:=hY h2
 have b3:Nat.ble (rD a.row).length lim=true:=hY (by rw[List.length_map];exact hr)
 cases tk with
 |err w=>
  have q:=Rv z (f:=f) (k:=k) (ro:=a.ro) (got:=rD a.row) (pl:=a.pl) (r:=r) (st:=st) (c:=c) (Q:=Q) (o:=o) (w:=w) b1
  rw[← show(a.told++[w]).map Tk.D.str=a.told.map Tk.D.str++[.str w]from List.map_append ..]at q
  exact q
 |erv w d=>
  have q:=Rw z (f:=f) (k:=k) (ro:=a.ro) (got:=rD a.row) (pl:=a.pl) (r:=r) (st:=st) (c:=c) (Q:=Q) (o:=o) (w:=w) (d:=d) b1
  rw[← show(a.told++[w]).map Tk.D.str=a.told.map Tk.D.str++[.str w]from List.map_append ..]at q
  exact q
 |chr1 x=>exact KA z (.inl rfl) hf
 |chr2 x=>exact KA z (.inr rfl) hf
 |com s=>
  have q:=Rx z (f:=f) (k:=k) (ro:=a.ro) (got:=rD a.row) (told:=a.told.map Tk.D.str) (st:=st) (c:=c) (Q:=Q) (o:=o) (w:=s) b2 b3 hp
  rw[← bX,← gV (row:=a.row) (it:=.note s) fun l=>rfl]at q
  exact q
 |doc n=>
  have q:=Ry z (f:=f) (k:=k) (ro:=a.ro) (got:=rD a.row) (told:=a.told.map Tk.D.str) (st:=st) (c:=c) (Q:=Q) (o:=o) (w:=n) b2 b3 hp
  rw[← bX,← gV (row:=a.row) (it:=.doc n) fun l=>rfl]at q
  exact q
 |etag n=>
  have q:=Rz z (f:=f) (k:=k) (ro:=a.ro) (got:=rD a.row) (told:=a.told.map Tk.D.str) (st:=st) (c:=c) (Q:=Q) (o:=o) (w:=n) b2 b3 hp
  rw[← bX,← gV (row:=a.row) (it:=.etag n) fun l=>rfl]at q
  exact q
 |stag n as sc=>
  have q:=Ib z (f:=f) (k:=k) (ro:=a.ro) (got:=rD a.row) (told:=a.told.map Tk.D.str) (st:=st) (c:=c) (Q:=Q) (o:=o) (n:=n) (sc:=sc) ht b2 b3 hp (hc _ _ _)
  rw[← bX,← gV (row:=a.row) (it:=.start n as sc) fun l=>rfl]at q
  exact q
noncomputable abbrev CO (z:bS):V→List O→(List O→Prop)→Prop:=Cons z.c aK.names 13 eF wM.g wM.b 13
theorem Fr.lo {k:D}{ro:Option D}:Lo (.fr (f.l k ro)):=by
 obtain⟨_,_,_,_,_,_,_,_,_,_,_,j⟩:=f
 cases j <;>cases ro <;>rfl
theorem KB {cv:Option D}:Lo (.cel (cv.map V.dat)):=by cases cv <;>rfl
variable {ct:CT}{q:List Tok}
theorem NL {a:Acc}{tk:Tok}{P:List O→Prop}(ht:gW tk=true)(hf:Fits a.row (NJ tk))(hr:a.row.length≤90000)(h1:a.told.length≤90000)(h2:a.pl.length≤90000)(hp:tT z r)
  (hP:P (AL f (a.tok r tk) r st (kD ct) (uJ q) (j0 ct))):CO z (.dat tk.toD) (AL f a r st (kD ct) (uJ q) (j0 ct)) P:=
 .mk (u6 (by kernel_rfl) (by kernel_rfl)) (NK z (k:=a.k) ht hf hr h1 h2 hp fun _ _ _=>Jy) rfl .id hP
noncomputable def Acc.inv (a:Acc):Acc:=⟨.int 7,a.ro,some (tW 7 aI),a.row,a.told++[aI],a.pl⟩
theorem SG {a:Acc}{P:List O→Prop}(h1:a.told.length≤90000)(hP:P (AL f a.inv r st (kD ct) (uJ q) (j0 ct))):CO z (.ref 18) (AL f a r st (kD ct) (uJ q) (j0 ct)++[Tp]) P:=by
 have b:=Ru z (f:=f) (k:=a.k) (ro:=a.ro) (got:=rD a.row) (told:=a.told.map Tk.D.str) (pl:=a.pl) (r:=r) (st:=st) (c:=kD ct) (Q:=uJ q) (o:=j0 ct) (hY (by rw[List.length_map];exact h1))
 rw[← show(a.told++[aI]).map Tk.D.str=a.told.map Tk.D.str++[.str aI]from List.map_append ..]at b
 exact .mk (u6 (by kernel_rfl) (by kernel_rfl)) b rfl (VH (a:=.fr (f.l (.int 7) a.ro)) (R:=oO (rD a.row) ((a.told++[aI]).map Tk.D.str) a.pl r st (kD ct) (.lst (uJ q)) (j0 ct)) (J:=[]) rfl (SE (O.cl_imp ET Fr.lo) Jy) rfl) hP
end
end
section
noncomputable def gA:List Evt→List Item
 | []=>[]
 |.err _::r=>gA r
 |.ent i _::r=>i::gA r
noncomputable def n9:List Evt→List Nm
 | []=>[]
 |.err w::r=>w::n9 r
 |.ent _ _::r=>n9 r
noncomputable def lX:List Evt→List (Option Nm)
 | []=>[]
 |.err _::r=>lX r
 |.ent i a::r=>match i with
  |.text _=>lX r
  |_=>a::lX r
noncomputable def CT.smallB:CT→Bool
 |.dead _=>true
 |.com s=>Nat.ble s.length 1000
 |.doc n=>Nat.ble n.length 1000
 |.tag _ n as _=>Nat.ble n.length 1000&&as.all fun a=>Nat.ble a.1.length 1000&&Nat.ble a.2.length 1000
theorem CT.small_of {ct:CT}(h:ct.smallB=true):ct.Small:=match ct,h with
 |.dead _,_=>trivial
 |.com _,h=>Nat.le_of_ble_eq_true h
 |.doc _,h=>Nat.le_of_ble_eq_true h
 |.tag ..,h=>have q:=Bool.and_eq_true_iff.mp h;⟨Nat.le_of_ble_eq_true q.1,fun a m=>have w:=Bool.and_eq_true_iff.mp (List.all_eq_true.mp q.2 a m);⟨Nat.le_of_ble_eq_true w.1,Nat.le_of_ble_eq_true w.2⟩⟩
noncomputable def KC (x:Bool)(z:Res)(l:Nm):Option (List Evt×Bool):=match l with
 | []=>match z.out with
  | []=>match z.rest with
   | []=>some ([],x&&z.ex)
   |_=>none
  |_=>none
 |_=>none
noncomputable def run:Nat→Bool→Nat→CT→Nm→Option (List Evt×Bool)
 |0,_,_,_,_=>none
 |k+1,x,st,ct,l=>match ct.smallB with
  |false=>none
  |true=>match sp st ct l with
   |none=>none
   |some z=>match(Mz ct z.ct).isSome&&z.out.all gW with
    |false=>none
    |true=>match z.more with
     |false=>KC x z l
     |true=>match run k (x&&z.ex) z.st z.ct z.rest with
      |none=>none
      |some b=>some (z.out.map (nS (x&&z.ex) z.rest)++b.1,b.2)
inductive RunS (R:Bool→Nat→CT→Nm→List Evt→Bool→Prop) (x:Bool) (st:Nat) (ct:CT) (l:Nm) (b:List Evt) (y:Bool):Prop
 |stop {ex:Bool} {st':Nat} {ct':CT} (el:l=[]) (eb:b=[]) (ey:y=(x&&ex)) (sm:ct.Small) (t:Tr ct ct') (e:sp st ct []=some ⟨false,st',ct',[],[],ex⟩)
 |step {ex:Bool} {st':Nat} {ct':CT} {rest:Nm} {out:List Tok} {b':List Evt} (eb:b=out.map (nS (x&&ex) rest)++b') (sm:ct.Small) (t:Tr ct ct') (ok:out.all gW=true) (e:sp st ct l=some ⟨true,st',ct',out,rest,ex⟩) (r:R (x&&ex) st' ct' rest b' y)
noncomputable def SH (k:Nat):Bool→Nat→CT→Nm→List Evt→Bool→Prop:=Nat.rec (fun _ _ _ _ _ _=>False) (fun _ R=>RunS R) k
theorem EY {x:Bool}{z:Res}{l:Nm}{a:List Evt×Bool}(h:KC x z l=some a):l=[]∧z.out=[]∧z.rest=[]∧a=([],x&&z.ex):=by
 obtain⟨m,st,ct,out,rest,ex⟩:=z
 cases l with
 |cons _ _=>cases h
 |nil=>cases out with
  |cons _ _=>cases h
  |nil=>cases rest with
   |cons _ _=>cases h
   |nil=>cases h;exact⟨rfl,rfl,rfl,rfl⟩
theorem EZ:∀ (k:Nat) (x:Bool) (st:Nat) (ct:CT) (l:Nm) (a:List Evt×Bool),run k x st ct l=some a→SH k x st ct l a.1 a.2
 |0,_,_,_,_,_,e=>by cases e
 |k+1,x,st,ct,l,a,e=>by
  unfold run at e
  cases sm:ct.smallB with
  |false=>rw[sm]at e;cases e
  |true=>
   rw[sm]at e
   cases es:sp st ct l with
   |none=>rw[es]at e;cases e
   |some z=>
    rw[es]at e
    dsimp only at e
    cases ht:(Mz ct z.ct).isSome&&z.out.all gW with
    |false=>rw[ht]at e;cases e
    |true=>
     rw[ht]at e
     dsimp only at e
     have ht:=Bool.and_eq_true_iff.mp ht
     obtain⟨m,st',ct',out,rest,ex⟩:=z
     cases m with
     |false=>
      obtain⟨rfl,h1,h2,rfl⟩:=EY e
      cases h1;cases h2
      exact .stop rfl rfl rfl (CT.small_of sm) (EU ht.1) es
     |true=>
      cases er:run k (x&&ex) st' ct' rest with
      |none=>dsimp only at e;rw[er]at e;cases e
      |some b=>
       dsimp only at e
       rw[er]at e
       cases e
       exact .step rfl (CT.small_of sm) (EU ht.1) ht.2 es (EZ k _ st' ct' rest b er)
noncomputable def bY (w:Nm):Bool:= !nb w aI
structure ToldR (a b errs:List Nm) (E:Nat):Prop where
 len:b.length=a.length+errs.length+E
 flt:b.filter bY=a.filter bY++errs.filter bY
inductive PlR (T:Nm):List D→List (Option Nm)→Prop
 |nil:PlR T [] []
 |cons {d:D} {ds:List D} {o:Option Nm} {os:List (Option Nm)} (h:∀ l,o=some l→∃ p,T=p++l∧d=.tup [.int ((dJ (0,0) p).1+1),.int (dJ (0,0) p).2]) (r:PlR T ds os):PlR T (d::ds) (o::os)
structure EndA (T:Nm) (a a':Acc) (evs:List Evt) (E:Nat):Prop where
 row:a'.row=cD a.row (gA evs)
 told:ToldR a.told a'.told (n9 evs) E
 pl:∃ ps,a'.pl=a.pl++ps∧PlR T ps (lX evs)
structure Lim (a:Acc) (evs:List Evt) (E:Nat):Prop where
 f:Fits a.row (gA evs)
 t:a.told.length+E+(n9 evs).length≤90000
 p:a.pl.length+(lX evs).length≤90000
theorem EndA.nil {T:Nm}{a:Acc}:EndA T a a [] 0:=⟨rfl,⟨rfl,(List.append_nil _).symm⟩,[],(List.append_nil _).symm,.nil⟩
theorem EndA.inv {T:Nm}{a a':Acc}{evs:List Evt}{E:Nat}(h:EndA T a.inv a' evs E):EndA T a a' evs (E+1):=
 ⟨h.row,⟨by have:=h.told.len;rw[this];show(a.told++_).length+_+_=_;rw[List.length_append];show a.told.length+1+_+_=_;lia,by
  have:=h.told.flt
  rw[this]
  show(a.told++_).filter bY++_=_
  rw[List.filter_append,show List.filter bY [aI]=[] by decide+kernel,List.append_nil]⟩,h.pl⟩
theorem Lim.inv {a:Acc}{evs:List Evt}{E:Nat}(h:Lim a evs (E+1)):Lim a.inv evs E:=
 ⟨h.f,by show(a.told++_).length+_+_≤_;rw[List.length_append];have:=h.t;show a.told.length+1+_+_≤_;lia,h.p⟩
theorem pU {a b errs:List Nm}{w:Nm}{E:Nat}(h:ToldR (a++[w]) b errs E):ToldR a b (w::errs) E:=
 ⟨by rw[h.len,List.length_append];show a.length+1+_+_=a.length+(errs.length+1)+_;lia,by rw[h.flt,List.filter_append,List.append_assoc,← List.filter_append];rfl⟩
theorem lY {T:Nm}{x:Bool}{E:Nat}{r:Stm}{ms l:Nm}{a b:List D}{os:List (Option Nm)}(at_:At' T x E r ms l)(h:∃ ps,b=(a++[dY r])++ps∧PlR T ps os):∃ ps,b=a++ps∧PlR T ps ((bif x then some l else none)::os):=by
 obtain⟨ps,e,q⟩:=h
 refine⟨dY r::ps,by rw[e,List.append_assoc];rfl,.cons (fun l' e'=>?_) q⟩
 cases x with
 |false=>cases e'
 |true=>
  cases e'
  obtain⟨p,h1,h2⟩:=at_.pos
  exact⟨p,h1,by rw[← h2]⟩
section
variable {T:Nm}{x:Bool}{E E':Nat}{r:Stm}{ms l:Nm}{a a':Acc}{evs:List Evt}{t:Tok}
theorem EndA.tok (at_:At' T x E' r ms l)(h:EndA T (a.tok r t) a' evs E):EndA T a a' (nS x l t::evs) E:=by
 obtain⟨h1,h2,h3⟩:=h
 cases t with
 |err w=>exact⟨h1,pU h2,h3⟩
 |erv w d=>exact⟨h1,pU h2,h3⟩
 |chr1 s=>exact⟨h1,h2,h3⟩
 |chr2 s=>exact⟨h1,h2,h3⟩
 |com s=>exact⟨h1,h2,lY at_ h3⟩
 |doc s=>exact⟨h1,h2,lY at_ h3⟩
 |etag s=>exact⟨h1,h2,lY at_ h3⟩
 |stag n as sc=>exact⟨h1,h2,lY at_ h3⟩
theorem Lim.tok (h:Lim a (nS x l t::evs) E):Lim (a.tok r t) evs E∧Fits a.row (NJ t):=by
 obtain⟨h1,h2,h3⟩:=h
 have e1:∀ w,(a.told++[w]).length=a.told.length+1:=fun w=>List.length_append ..
 have e2:∀ w,(a.pl++[w]).length=a.pl.length+1:=fun w=>List.length_append ..
 have f0:Fits a.row []:=⟨by have:=h1.a;show _+0≤_;lia,by have:=h1.b;show _+0≤_;lia⟩
 have f1:∀ i is,Fits a.row (i::is)→Fits a.row [i]:=fun i is h=>⟨by have:=h.a;show _+(i.len+0)≤_;have this:_+(i.len+cT is)≤90000:=this;lia,by have:=h.b;show _+1≤_;have this:_+(is.length+1)≤90000:=this;lia⟩
 cases t with
 |err w=>exact⟨⟨h1,by have h2:_+_+((n9 evs).length+1)≤90000:=h2;show(a.told++[w]).length+_+_≤_;rw[e1];lia,h3⟩,f0⟩
 |erv w d=>exact⟨⟨h1,by have h2:_+_+((n9 evs).length+1)≤90000:=h2;show(a.told++[w]).length+_+_≤_;rw[e1];lia,h3⟩,f0⟩
 |chr1 s=>exact⟨⟨h1.next,h2,h3⟩,f1 _ _ h1⟩
 |chr2 s=>exact⟨⟨h1.next,h2,h3⟩,f1 _ _ h1⟩
 |com s=>exact⟨⟨h1.next,h2,by have h3:_+((lX evs).length+1)≤90000:=h3;show(a.pl++[_]).length+_≤_;rw[e2];lia⟩,f1 _ _ h1⟩
 |doc s=>exact⟨⟨h1.next,h2,by have h3:_+((lX evs).length+1)≤90000:=h3;show(a.pl++[_]).length+_≤_;rw[e2];lia⟩,f1 _ _ h1⟩
 |etag s=>exact⟨⟨h1.next,h2,by have h3:_+((lX evs).length+1)≤90000:=h3;show(a.pl++[_]).length+_≤_;rw[e2];lia⟩,f1 _ _ h1⟩
 |stag n as sc=>exact⟨⟨h1.next,h2,by have h3:_+((lX evs).length+1)≤90000:=h3;show(a.pl++[_]).length+_≤_;rw[e2];lia⟩,f1 _ _ h1⟩
theorem At'.dry (h:At' T x E r ms l):At' T x (bT r.rest) (r.at0 0) ms l:=
 ⟨⟨h.ok.pl,h.ok.len,h.ok.sg,h.ok.buf,h.ok.off,h.ok.chk,by show 0+_≤_;have:=h.ok.er;have e:(r.at0 0).rest=r.rest:=rfl;rw[e];lia⟩,h.len,h.eq,h.pre,h.st,h.fr,by show 0+_=_;rw[Nat.zero_add];rfl⟩
end
noncomputable abbrev NX (z:bS)(hpE:List O)(m:Nat)(p:Pt)(hp:List O):Prop:=Nx (CO z) hpE z.c gN 8 GF gI.t 13 m p hp
noncomputable abbrev PX (z:bS)(hpE:List O)(m k:Nat)(p:Pt)(hp:List O):Prop:=vQ z.c gN 8 GF gI.t 13 (YM (CO z) hpE z.c gN 8 GF gI.t 13 m) hpE k p hp
section
variable {z:bS}{f:Fr}{T:Nm}{x:Bool}{E E':Nat}{r:Stm}{st:Nat}{ct:CT}{hpE:List O}{m:Nat}
theorem KD {p:Pt}{hp:List O}(h:∃ k,PX z hpE m k p hp):NX z hpE m p hp:=(Jf (c:=z.c) (gs:=gN) (ng:=8) (gF:=GF) (T:=gI.t) (base:=13) (CO z) hpE m p hp).mpr h
noncomputable def Acc.invs (a:Acc):Nat→Acc
 |0=>a
 |k+1=>a.inv.invs k
noncomputable def Acc.toks (a:Acc)(r:Stm):List Tok→Acc
 | []=>a
 |t::q=>(a.tok r t).toks r q
theorem Ea {q:List Tok}:∀ (k:Nat) (a:Acc),a.told.length+k≤90000→(∃ kk,PX z hpE m kk .b (AL f (a.invs k) (r.at0 0) st (kD ct) (uJ q) (j0 ct)))→∃ kk,PX z hpE (k+m) kk .a (AL f a (r.at0 k) st (kD ct) (uJ q) (j0 ct))
 |0,a,_,⟨kk,h⟩=>⟨kk+1,by rw[Nat.zero_add];exact .pass (by intro e;cases e) (VD z) h⟩
 |k+1,a,hl,h=>by
  have ih:=Ea (q:=q) k a.inv (by show(a.told++_).length+_≤_;rw[List.length_append];show a.told.length+1+_≤_;lia) h
  have hk:Nat.ble (k+1) lim=true:=hY (by lia)
  refine⟨1,?_⟩
  rw[Nat.add_right_comm]
  exact .yld (by intro e;cases e) (VE z hk) (Mx z hk) (SG z (by lia) (KD ih))
theorem yU {ms l:Nm}{b:List Evt}(at_:At' T x E r ms l):∀ (q:List Tok) (a:Acc),q.all gW=true→Lim a (q.map (nS x l)++b) E'→q.length≤90000→(∃ kk,PX z hpE m kk .o (AL f (a.toks r q) r st (kD ct) [] (j0 ct)))→
  ∃ kk,PX z hpE (q.length+m) kk .b (AL f a r st (kD ct) (uJ q) (j0 ct))
 | [],a,_,_,_,⟨k,h⟩=>⟨k+1,by rw[List.length_nil,Nat.zero_add];exact .pass (by intro e;cases e) (VF z) h⟩
 |tk::q,a,ho,hf,hl,h=>by
  have ho:=Bool.and_eq_true_iff.mp (ho:(gW tk&&q.all gW)=true)
  have L:=Lim.tok (r:=r) hf
  have hl':Nat.ble ((uJ q).length+1) lim=true:=hY (by rw[uJ,List.length_map];exact hl)
  have ih:=yU at_ q (a.tok r tk) ho.2 L.1 (Nat.le_of_succ_le hl) h
  refine⟨1,?_⟩
  rw[List.length_cons,Nat.add_right_comm]
  have t:=hf.t
  have p:=hf.p
  exact .yld (by intro e;cases e) (VG z hl') (Rj z hl') (NL z ho.1 L.2 (by have:=hf.f.b;lia) (by lia) (by lia) (nB z at_.ok.off) (KD ih))
theorem tV {a':Acc}{evs:List Evt}:∀ (k:Nat) {a:Acc},EndA T (a.invs k) a' evs E→EndA T a a' evs (E+k)
 |0,_,h=>h
 |k+1,a,h=>by have:=(tV k (a:=a.inv) h).inv;rw[Nat.add_assoc]at this;exact this
theorem tX {evs:List Evt}:∀ (k:Nat) {a:Acc},Lim a evs (E+k)→Lim (a.invs k) evs E
 |0,_,h=>h
 |k+1,a,h=>tX k (a:=a.inv) (Lim.inv (by rw[← Nat.add_assoc]at h;exact h))
theorem tY {ms l:Nm}{a':Acc}{b:List Evt}(at_:At' T x E r ms l):∀ (q:List Tok) {a:Acc},EndA T (a.toks r q) a' b E'→EndA T a a' (q.map (nS x l)++b) E'
 | [],_,h=>h
 |_::q,_,h=>(tY at_ q h).tok at_
theorem tZ {l:Nm}{b:List Evt}:∀ (q:List Tok) {a:Acc},Lim a (q.map (nS x l)++b) E'→Lim (a.toks r q) b E'
 | [],_,h=>h
 |_::q,_,h=>tZ q (Lim.tok h).1
inductive EndR (f:Fr) (T:Nm) (a:Acc) (evs:List Evt) (E:Nat) (y:Bool):List O→Prop
 |mk (a':Acc) (r:Stm) (st:Nat) (ct:CT) (h:EndA T a a' evs E) (at_:At' T y 0 r [] []):EndR f T a evs E y (AL f a' r st (kD ct) [] (j0 ct))
theorem At'.end0 {ms:Nm}(h:At' T x E r ms [])(e:r.er=0):E=0:=by
 have q:=pO (List.append_eq_nil_iff.mp h.eq.symm).2
 have:=h.er
 rw[e,q]at this
 exact this.symm
set_option tactic.hygienic true in
theorem SI (R:RplOk z.K){y:Bool}:∀ (kr:Nat) {x:Bool} {st:Nat} {ct:CT} {l:Nm} {evs:List Evt} (h:SH kr x st ct l evs y) (E:Nat) (r:Stm) (a:Acc),At' T x E r [] l→(l=[]→r.er=0)→Lim a evs E→evs.length≤90000→
  ∃ hpE m,EndR f T a evs E y hpE∧∃ k,∀ hp,Gc 13 hp (AL f a r st (kD ct) [] (j0 ct))→PX z hpE m k .o hp:=by
 intro kr
 induction kr with
 |zero=>exact fun h=>(h:False).elim
 |succ kr ih=>
 intro x st ct l evs h E r a at_ h0 L le
 cases(h:RunS ..)with
 |stop el eb ey sm t e=>
  subst el eb ey
  have E0:=at_.end0 (h0 rfl)
  subst E0
  obtain⟨r1,hp1,a1,b,gc⟩:=yR (fr:=f.l a.k a.ro) (cv:=a.cv.map V.dat) (got:=rD a.row) (told:=a.told.map Tk.D.str) (pl:=a.pl) Fr.lo KB t (Jw (z:=z) R sm at_ e)
  exact⟨_,0,.mk a r1 _ _ .nil a1,1,fun hp g=>.stop rfl g b gc⟩
 |step eb sm t ok e h=>
  rename_i ex st' ct' rest out b
  subst eb
  obtain⟨r1,hp1,a1,bb,gc⟩:=yR (fr:=f.l a.k a.ro) (cv:=a.cv.map V.dat) (got:=rD a.row) (told:=a.told.map Tk.D.str) (pl:=a.pl) Fr.lo KB t (Jw (z:=z) R sm at_ e)
  have eE:bT r1.rest+r1.er=E:=by rw[Nat.add_comm];exact a1.er
  have a2:=a1.dry
  rw[← eE]at L
  have L1:=tX r1.er L
  have L2:=tZ (r:=r1.at0 0) out L1
  have ln:out.length+b.length≤90000:=by rw[List.length_append,List.length_map]at le;exact le
  obtain⟨hpE,m,en,k,p⟩:=ih h (bT r1.rest) (r1.at0 0) _ a2 (fun _=>rfl) L2 (by lia)
  cases en with
  |mk a' r' st2 ct2 hA at2=>
   have q:=yU (z:=z) (f:=f) (b:=b) a2 out (a.invs r1.er) ok L1 (by lia) ⟨k,p _ .id⟩
   obtain⟨k1,q⟩:=Ea (z:=z) (f:=f) (r:=r1) r1.er a (by have:=L.t;lia) q
   refine⟨_,_,.mk a' r' st2 ct2 ?_ at2,k1+1,fun hp g=>.go rfl g bb gc q⟩
   rw[← eE]
   exact tV _ (tY a2 out hA)
end
end
section
open PySem.SeqAt
section
variable {c:Cx}{n:Nat}{hp:List O}{a b:V}{ds:List D}
noncomputable def oP (P:Params)(ds:List D):Prop:=R2 (DOk P 7) ds ds
theorem Eb (ha:items a hp=some (dl ds))(hb:items b hp=some (dl ds))(h:oP c.P ds):cG c n hp (compareOp .Eq) jA a b true hp:=fun A W s u v z hu hv=>by
 match u,aT z.rel hu ha,v,aT z.rel hv hb with
 |_,.mk a us k I d,_,.mk a' us' k' I' d'=>
  have q:=i9 (A:=A) h z.rel.fz (DRs.r2.mpr (R2.unmap (f:=V.dat) d)) (DRs.r2.mpr (R2.unmap (f:=V.dat) d')) z.room.eight
  have t:=RcAt.lists (e:=fun _=>true) ⟨_,I,rfl,_,rfl⟩ ⟨_,I',rfl,_,rfl⟩ (by rw[List.size_toArray,List.size_toArray,q.1]) (Nat.lt_of_le_of_lt (Nat.le_add_right _ _) z.room.eight) q.2
  rw[xB]at t
  exact t _ _ _ _ (bo z _ rfl)
theorem Ec (ha:items a hp=some (dl ds))(hb:items b hp=some (dl ds))(h:oP c.P ds):cG c n hp (compareOp .NotEq) jA a b false hp:=fun A W s u v z hu hv=>by
 match u,aT z.rel hu ha,v,aT z.rel hv hb with
 |_,.mk a us k I d,_,.mk a' us' k' I' d'=>
  have q:=i9 (A:=A) h z.rel.fz (DRs.r2.mpr (R2.unmap (f:=V.dat) d)) (DRs.r2.mpr (R2.unmap (f:=V.dat) d')) z.room.eight
  have t:=RcNeAt.lists (e:=fun _=>true) ⟨_,I,rfl,_,rfl⟩ ⟨_,I',rfl,_,rfl⟩ (by rw[List.size_toArray,List.size_toArray,q.1]) (Nat.lt_of_le_of_lt (Nat.le_add_right _ _) z.room.eight) q.2
  rw[xB]at t
  exact t _ _ _ _ (bo z _ rfl)
end
theorem lZ {p q:Prop}{x:Mb q}{f:q→Mb p}(h:x.yes=true)(k:∀ a,(f a).yes=true):(x.tkn f).yes=true:=match x,h with
 |.ok a,_=>k a
theorem yV {p:Prop}{b:Bool}{f:b=true→Mb p}(h:b=true)(k:∀ e,(f e).yes=true):(Mb.gvn b f).yes=true:=by
 subst h;exact k rfl
theorem j4 {R:D→D→Prop}{f:∀ a b,Mb (R a b)}:∀ xs:List D,(∀ x∈xs,(f x x).yes=true)→(GE f xs xs).yes=true
 | [],_=>rfl
 |x::xs,h=>lZ (h x (.head _)) fun _=>lZ (j4 xs fun y m=>h y (.tail _ m)) fun _=>rfl
theorem cM {P:Params}(n:Nat)(x:Nm):(iJ P n (.str x) (.str x)).yes=true:=by cases n <;>exact yV (iZ x) fun _=>rfl
theorem l8 {P:Params}(n:Nat)(x:Int):(iJ P n (.int x) (.int x)).yes=true:=by cases n <;>exact yV (by show kC x x=true;rw[← bE];exact beq_self_eq_true x) fun _=>rfl
theorem yW {P:Params}(n:Nat)(b:Bool):(iJ P n (.boo b) (.boo b)).yes=true:=by cases n <;>cases b <;>rfl
theorem yX {P:Params}(n:Nat):(iJ P n .non .non).yes=true:=by cases n <;>rfl
theorem eY {P:Params}{n:Nat}{xs:List D}(h:∀ x∈xs,(iJ P n x x).yes=true):(iJ P (n+1) (.tup xs) (.tup xs)).yes=true:=lZ (j4 xs h) fun _=>rfl
theorem Ic {P:Params}{n:Nat}{xs:List D}(h:∀ x∈xs,(iJ P n x x).yes=true):(iJ P (n+1) (.lst xs) (.lst xs)).yes=true:=lZ (j4 xs h) fun _=>rfl
theorem eS {α:Type}{p:α→Prop}{a:α}{r:List α}(h:p a)(k:∀ x∈r,p x):∀ x∈a::r,p x:=fun _ m=>match m with
 |.head _=>h
 |.tail _ m=>k _ m
theorem Ed {P:Params}(i:Item):(iJ P 7 i.toD i.toD).yes=true:=by
 cases i with
 |text s=>exact eY (eS (cM _ _) (eS (cM _ _) nofun))
 |etag s=>exact eY (eS (cM _ _) (eS (cM _ _) nofun))
 |note s=>exact eY (eS (cM _ _) (eS (cM _ _) nofun))
 |doc s=>exact eY (eS (cM _ _) (eS (cM _ _) (eS (yX _) (eS (yX _) (eS (yW _ _) nofun)))))
 |start n as sc=>
  refine eY (eS (cM _ _) (eS (cM _ _) (eS (Ic fun x m=>?_) (eS (yW _ _) nofun))))
  obtain⟨p,_,rfl⟩:=List.mem_map.mp m
  exact eY (eS (cM _ _) (eS (cM _ _) nofun))
theorem rJ {P:Params}{ds:List D}(h:∀ x∈ds,(iJ P 7 x x).yes=true):oP P ds:=Mb.out (j4 ds h)
theorem wN {P:Params}(row:List Item):oP P (rD row):=rJ fun x m=>by
 obtain⟨i,_,rfl⟩:=List.mem_map.mp m
 exact Ed i
theorem Ad {P:Params}(ws:List Nm):oP P (ws.map Tk.D.str):=rJ fun x m=>by
 obtain⟨i,_,rfl⟩:=List.mem_map.mp m
 exact cM _ _
noncomputable def fQ (p:Int×Int):D:=.tup [.int p.1,.int p.2]
theorem t8 {P:Params}(ps:List (Int×Int)):oP P (ps.map fQ):=rJ fun x m=>by
 obtain⟨i,_,rfl⟩:=List.mem_map.mp m
 exact eY (eS (l8 _ _) (eS (l8 _ _) nofun))
end
section
noncomputable def wO:Nm:=[115,105,103,110]
structure ComT where
 e:Expr
 t:Expr
 i:Expr
 c:Expr
 s:Scope
 p:Pos
noncomputable def SJ:Expr→ComT
 |.ListComp e [⟨t,i,[c],0⟩] s p=>⟨e,t,i,c,s,p⟩
 |_=>⟨.Constant .none 0 fC,.Constant .none 0 fC,.Constant .none 0 fC,.Constant .none 0 fC,⟨.function,[],false,false,[]⟩,fC⟩
noncomputable def ComT.r (f:ComT):Expr:=.ListComp f.e [⟨f.t,f.i,[f.c],0⟩] f.s f.p
noncomputable def WY:Stmt→Expr
 |.If t _ _ _=>t
 |_=>.Constant .none 0 fC
noncomputable def lR:ComT:=SJ (match WY (fG aK.body 8)with|.BoolOp _ [_,.Compare l _ _ _] _=>l|e=>e)
noncomputable def lS:ComT:=SJ (match WY (fG aK.body 9)with|.Compare _ _ [.BinOp _ _ (.Call _ [a] _ _) _] _=>a|e=>e)
theorem Ee {c:Nat}(h:nA c):Txt.contains (st [1,64976]) (st [c])=eL c:=by
 rcases kX h with rfl|rfl|h|rfl|rfl|rfl
 ·decide+kernel
 ·decide+kernel
 ·exact(by decide+kernel:∀ c<127,32≤c→Txt.contains (st [1,64976]) (st [c])=eL c) c (by lia) h.1
 ·decide+kernel
 ·decide+kernel
 ·decide+kernel
section
variable (z:bS){fr:List (Nm×V)}{cv:Option V}{got told pl:List D}{r:Stm}{st:Nat}{c:V}{Q:List V}{o:Q4}
noncomputable abbrev KF (eo:Option D):List (Nm×V):=match eo with
 |none=>[]
 |some d=>[(fE,.dat d)]
noncomputable abbrev KG (eo:Option D):List (Nm×V):=match eo with
 |none=>[]
 |some d=>[(wO,.dat d)]
noncomputable abbrev CF (k:Nat):Fx:=⟨k,[],false⟩
noncomputable abbrev X0 (fr:List (Nm×V))(cv:Option V)(got:List D)(ws:List Nm)(pl:List D)(r:Stm)(st:Nat)(c:V)(Q:List V)(o:Q4):List O:=CL fr cv got (ws.map Tk.D.str) pl r st c Q o
noncomputable abbrev sD (ws:List Nm):List V:=dl (ws.map Tk.D.str)
theorem yY (ws:List Nm)(w:Nm):sD (ws++[w])=sD ws++[.dat (.str w)]:=by unfold sD dl;rw[List.map_append,List.map_append];rfl
theorem nU {ws:List Nm}(hl:ws.length≤90000):∀ (t:List Nm) (k:Nat) (b:List Nm) (eo:Option D),ws.drop k=t→b.length≤k→∃ eo',sQ z.c (fB aK.names lR.s.names) 13 (CF 19) lR.t [lR.c] lR.e 18 (.ref 3) (t.length+1) k (X0 fr cv got ws pl r st c Q o++[.lst (sD b),.fr (KF eo)]) (X0 fr cv got ws pl r st c Q o++[.lst (sD (b++t.filter bY)),.fr (KF eo')])
 | [],k,b,eo,h,_=>⟨eo,by rw[List.filter_nil,List.append_nil];exact .stop (all:=sD ws) rfl (by unfold sD dl;rw[List.getElem?_map,List.getElem?_map,List.getElem?_eq_none (List.drop_eq_nil_iff.mp h)];rfl)⟩
 |w::t,k,b,eo,h,hb=>by
  have hk:ws[k]? =some w:=by have:=congrArg (·[0]?) h;simpa using this
  have ht:ws.drop (k+1)=t:=by rw[← List.drop_drop,h];rfl
  have lt:=(List.getElem?_eq_some_iff.mp hk).1
  have g:(sD ws)[k]? =some (.dat (.str w)):=by unfold sD dl;rw[List.getElem?_map,List.getElem?_map,hk];rfl
  have rg:RG z.c (fB aK.names lR.s.names) 13 (CF 19) (X0 fr cv got ws pl r st c Q o++[.lst (sD b),.fr (KF eo)]) lR.t (.dat (.str w)) (X0 fr cv got ws pl r st c Q o++[.lst (sD b),.fr (KF (some (.str w)))]):=by
   cases eo with
   |none=>exact b0 (by kernel_rfl) (by kernel_rfl)
   |some v=>exact b0 (by kernel_rfl) (by kernel_rfl)
  have e0:RE z.c (fB aK.names lR.s.names) 13 (CF 19) (X0 fr cv got ws pl r st c Q o++[.lst (sD b),.fr (KF (some (.str w)))]) lR.e (.dat (.str w)) (X0 fr cv got ws pl r st c Q o++[.lst (sD b),.fr (KF (some (.str w)))]):=z.useE (hs:=[]) (g:=true) rfl trivial (by kernel_rfl)
  have tb:∀ q,bY w=q→RB z.c (fB aK.names lR.s.names) 13 (CF 19) (X0 fr cv got ws pl r st c Q o++[.lst (sD b),.fr (KF (some (.str w)))]) lR.c q (X0 fr cv got ws pl r st c Q o++[.lst (sD b),.fr (KF (some (.str w)))]):=fun q e=>by
   subst e
   exact z.useT (hs:=[]) (g:=true) rfl trivial (by kernel_rfl)
  rw[List.filter_cons]
  cases hq:bY w with
  |true=>
   obtain⟨eo',q⟩:=nU hl t (k+1) (b++[w]) (some (.str w)) ht (by rw[List.length_append];show b.length+1≤_;lia)
   rw[List.append_assoc]at q
   refine⟨eo',.turn (all:=sD ws) rfl g rg (.one (tb true hq)) e0 rfl (hY (by unfold sD dl;rw[List.length_map,List.length_map];lia)) ?_⟩
   rw[← yY]
   exact q
  |false=>
   obtain⟨eo',q⟩:=nU hl t (k+1) b (some (.str w)) ht (by lia)
   exact⟨eo',.skip (all:=sD ws) rfl g rg (.one (tb false hq)) q⟩
noncomputable abbrev oR (t:Nm):List Nm:=t.map fun c=>[c]
theorem nV {X:List Nm}{ws:List Nm}{tx:Nm}(hl:tx.length≤20000):∀ (t:Nm) (k:Nat) (b:Nm) (eo:Option D),tx.drop k=t→b.length≤k→(∀ c∈t,nA c)→∃ eo',sQ z.c (fB aK.names lS.s.names) 13 (CF 21) lS.t [lS.c] lS.e 20 (.dat (.str tx)) (t.length+1) k (X0 fr cv got ws pl r st c Q o++[.lst (sD X),.gone,.lst (sD (oR b)),.fr (KG eo)]) (X0 fr cv got ws pl r st c Q o++[.lst (sD X),.gone,.lst (sD (oR (b++t.filter eL))),.fr (KG eo')])
 | [],k,b,eo,h,_,_=>⟨eo,by rw[List.filter_nil,List.append_nil];exact .stop rfl (by rw[iD,List.getElem?_map,List.getElem?_eq_none (List.drop_eq_nil_iff.mp h)];rfl)⟩
 |w::t,k,b,eo,h,hb,hc=>by
  have hk:tx[k]? =some w:=by have:=congrArg (·[0]?) h;simpa using this
  have ht:tx.drop (k+1)=t:=by rw[← List.drop_drop,h];rfl
  have lt:=(List.getElem?_eq_some_iff.mp hk).1
  have g:(iD tx)[k]? =some (.dat (.str [w])):=by rw[iD,List.getElem?_map,hk];rfl
  have rg:RG z.c (fB aK.names lS.s.names) 13 (CF 21) (X0 fr cv got ws pl r st c Q o++[.lst (sD X),.gone,.lst (sD (oR b)),.fr (KG eo)]) lS.t (.dat (.str [w])) (X0 fr cv got ws pl r st c Q o++[.lst (sD X),.gone,.lst (sD (oR b)),.fr (KG (some (.str [w])))]):=by
   cases eo with
   |none=>exact b0 (by kernel_rfl) (by kernel_rfl)
   |some v=>exact b0 (by kernel_rfl) (by kernel_rfl)
  have e0:RE z.c (fB aK.names lS.s.names) 13 (CF 21) (X0 fr cv got ws pl r st c Q o++[.lst (sD X),.gone,.lst (sD (oR b)),.fr (KG (some (.str [w])))]) lS.e (.dat (.str [w])) (X0 fr cv got ws pl r st c Q o++[.lst (sD X),.gone,.lst (sD (oR b)),.fr (KG (some (.str [w])))]):=z.useE (hs:=[]) (g:=true) rfl trivial (by kernel_rfl)
  have hw:nA w:=hc w (.head _)
  have tb:∀ q,eL w=q→RB z.c (fB aK.names lS.s.names) 13 (CF 21) (X0 fr cv got ws pl r st c Q o++[.lst (sD X),.gone,.lst (sD (oR b)),.fr (KG (some (.str [w])))]) lS.c q (X0 fr cv got ws pl r st c Q o++[.lst (sD X),.gone,.lst (sD (oR b)),.fr (KG (some (.str [w])))]):=fun q e=>by
   subst e
   rw[← Ee hw]
   exact z.useT (hs:=[]) (g:=true) rfl trivial (by kernel_rfl)
  have e3:sD (oR (b++[w]))=sD (oR b)++[.dat (.str [w])]:=by unfold oR;rw[List.map_append];exact yY _ _
  rw[List.filter_cons]
  cases hq:eL w with
  |true=>
   obtain⟨eo',q⟩:=nV hl t (k+1) (b++[w]) (some (.str [w])) ht (by rw[List.length_append];show b.length+1≤_;lia) fun x m=>hc x (.tail _ m)
   rw[List.append_assoc]at q
   refine⟨eo',.turn rfl g rg (.one (tb true hq)) e0 rfl (hY (by unfold sD dl oR;rw[List.length_map,List.length_map,List.length_map];lia)) ?_⟩
   rw[← e3]
   exact q
  |false=>
   obtain⟨eo',q⟩:=nV hl t (k+1) b (some (.str [w])) ht (by lia) fun x m=>hc x (.tail _ m)
   exact⟨eo',.skip rfl g rg (.one (tb false hq)) q⟩
end
end
section
section
variable {z:bS}{f:Fr}{k:D}{ro:Option D}{cv:Option V}{got pl:List D}{ws:List Nm}{r:Stm}{st:Nat}{c:V}{Q:List V}{o:Q4}
noncomputable abbrev XE (f:Fr)(k:D)(ro:Option D)(cv:Option V)(got:List D)(ws:List Nm)(pl:List D)(r:Stm)(st:Nat)(c:V)(Q:List V)(o:Q4):List O:=X0 (f.l k ro) cv got ws pl r st c Q o
noncomputable abbrev X1 (f:Fr)(k:D)(ro:Option D)(cv:Option V)(got:List D)(ws:List Nm)(pl:List D)(r:Stm)(st:Nat)(c:V)(Q:List V)(o:Q4)(X:List Nm):List O:=XE f k ro cv got ws pl r st c Q o++[.lst (sD X),.gone]
noncomputable abbrev X2 (f:Fr)(k:D)(ro:Option D)(cv:Option V)(got:List D)(ws:List Nm)(pl:List D)(r:Stm)(st:Nat)(c:V)(Q:List V)(o:Q4)(X Y:List Nm):List O:=XE f k ro cv got ws pl r st c Q o++[.lst (sD X),.gone,.lst (sD Y),.gone]
theorem NM (hl:ws.length≤90000):RE z.c aK.names 13 eF (XE f k ro cv got ws pl r st c Q o) lR.r (.ref 18) (X1 f k ro cv got ws pl r st c Q o (ws.filter bY)):=by
 obtain⟨eo,q⟩:=nU z (fr:=f.l k ro) (cv:=cv) (got:=got) (pl:=pl) (r:=r) (st:=st) (c:=c) (Q:=Q) (o:=o) hl ws 0 [] none rfl (Nat.le_refl _)
 have h1:RE z.c aK.names 13 eF (XE f k ro cv got ws pl r st c Q o) lR.i (.ref 3) (XE f k ro cv got ws pl r st c Q o):=z.useE (hs:=[]) (g:=true) rfl trivial (by apply fO (f:=f) (ro:=ro);kernel_rfl)
 exact lU (jP (by kernel_rfl)) h1 rfl rfl q rfl
theorem SM {X:List Nm}(hl:f.tx.length≤20000)(hc:∀ c∈f.tx,nA c):RE z.c aK.names 13 eF (X1 f k ro cv got ws pl r st c Q o X) lS.r (.ref 20) (X2 f k ro cv got ws pl r st c Q o X (oR (f.tx.filter eL))):=by
 obtain⟨eo,q⟩:=nV z (fr:=f.l k ro) (cv:=cv) (got:=got) (ws:=ws) (pl:=pl) (r:=r) (st:=st) (c:=c) (Q:=Q) (o:=o) (X:=X) hl f.tx 0 [] none rfl (Nat.le_refl _) hc
 have h1:RE z.c aK.names 13 eF (X1 f k ro cv got ws pl r st c Q o X) lS.i (.dat (.str f.tx)) (X1 f k ro cv got ws pl r st c Q o X):=z.useE (hs:=[]) (g:=true) rfl trivial (by apply fO (f:=f) (ro:=ro);kernel_rfl)
 exact lU (jP (by kernel_rfl)) h1 rfl rfl q rfl
noncomputable def Fr.wd (f:Fr)(fs ds:D):Fr:=⟨f.sD,f.nD,f.tx,f.sp,f.ca,f.ss,fs,ds,f.n,f.r,f.f,f.j⟩
theorem Fr.wd_eq {f:Fr}{fs ds:D}(h:f.ds=ds)(h2:f.fs=fs):f.wd fs ds=f:=by cases h;cases h2;rfl
noncomputable abbrev fW (f:Fr)(row:List Item)(fs:List Nm):Fr:=f.wd (.lst (fs.map Tk.D.str)) (.lst (rD row))
theorem SN {row:List Item}{fs:List Nm}(hw:ws.filter bY=fs)(hl:ws.length≤90000)(hx:f.tx.length≤20000)(hc:∀ c∈f.tx,nA c)(hn:ws.length=fs.length+bT f.tx)(hf:fs.length≤90000):
  RX z.c aK.names 13 eF (XE (fW f row fs) k ro cv (rD row) ws pl r st c Q o) ((aK.body.drop 8).take 2) .next (X2 (fW f row fs) k ro cv (rD row) ws pl r st c Q o fs (oR (f.tx.filter eL))):=by
 have a1:=hw▸NM (z:=z) (f:=fW f row fs) (k:=k) (ro:=ro) (cv:=cv) (got:=rD row) (pl:=pl) (r:=r) (st:=st) (c:=c) (Q:=Q) (o:=o) hl
 have a2:=SM (z:=z) (f:=fW f row fs) (k:=k) (ro:=ro) (cv:=cv) (got:=rD row) (ws:=ws) (pl:=pl) (r:=r) (st:=st) (c:=c) (Q:=Q) (o:=o) (X:=fs) hx hc
 have c1:=Ec (c:=z.c) (n:=13) (hp:=XE (fW f row fs) k ro cv (rD row) ws pl r st c Q o) (a:=.ref 2) (b:=.dat (.lst (rD row))) rfl rfl (wN row)
 have c2:=Ec (c:=z.c) (n:=13) (hp:=X1 (fW f row fs) k ro cv (rD row) ws pl r st c Q o fs) (a:=.ref 18) (b:=.dat (.lst (fs.map Tk.D.str))) rfl rfl (Ad fs)
 have m1:(dl (ws.map Tk.D.str)).length=ws.length:=by unfold dl;rw[List.length_map,List.length_map]
 have m2:(dl (fs.map Tk.D.str)).length=fs.length:=by unfold dl;rw[List.length_map,List.length_map]
 have m3:(sD (oR (f.tx.filter eL))).length=bT f.tx:=by unfold sD dl oR;rw[List.length_map,List.length_map,List.length_map];rfl
 have n1:(!kC (Int.ofNat (dl (ws.map Tk.D.str)).length) (Int.ofNat (dl (fs.map Tk.D.str)).length+Int.ofNat (sD (oR (f.tx.filter eL))).length))=false:=by
  rw[m1,m2,m3,hn,← bE]
  exact congrArg (!·) (beq_self_eq_true (Int.ofNat _))
 exact z.useX (hs:=[.itm 1273007017 (.dat (.boo false)),.exp 1273021075 (.ref 18) (X1 (fW f row fs) k ro cv (rD row) ws pl r st c Q o fs),.itm 1273021085 (.dat (.boo false)),
   .exp 1275038085 (.ref 20) (X2 (fW f row fs) k ro cv (rD row) ws pl r st c Q o fs (oR (f.tx.filter eL))),
   .tst 1275007086 false])
  (g:=cg [(false,!kC (Int.ofNat (dl (ws.map Tk.D.str)).length) (Int.ofNat (dl (fs.map Tk.D.str)).length+Int.ofNat (sD (oR (f.tx.filter eL))).length)),(true,Nat.ble (sD (oR (f.tx.filter eL))).length lim),(true,Nat.ble (dl (fs.map Tk.D.str)).length lim),(true,Nat.ble (dl (ws.map Tk.D.str)).length lim)]) (aA n1 (aA (hY (m3▸Nat.le_trans (q0 _) (Nat.le_trans hx (by decide)))) (aA (hY (m2▸hf)) (aA (hY (m1▸hl)) aE)))) (an a2 (an c2 (an a1 (an c1 trivial)))) (by apply fO (f:=f) (ro:=ro);kernel_rfl)
theorem VN {row:List Item}{fs:List Nm}(hd:f.ds=.lst (rD row))(hfs:f.fs=.lst (fs.map Tk.D.str))(hw:ws.filter bY=fs)(hl:ws.length≤90000)(hx:f.tx.length≤20000)(hc:∀ c∈f.tx,nA c)(hn:ws.length=fs.length+bT f.tx)(hf:fs.length≤90000):
  RX z.c aK.names 13 eF (XE f k ro cv (rD row) ws pl r st c Q o) ((aK.body.drop 8).take 2) .next (X2 f k ro cv (rD row) ws pl r st c Q o fs (oR (f.tx.filter eL))):=
 (Fr.wd_eq hd hfs:fW f row fs=f)▸SN (f:=f) (row:=row) hw hl hx hc hn hf
theorem yZ {α:Type}(xs:List α):eR xs none none=xs:=by
 show(xs.drop 0).take (xs.length-0)=xs
 exact List.take_length
theorem y1 {α:Type}(xs:List α)(m:Nat):eR xs none (some (Int.ofNat m))=xs.take m:=by
 show(xs.drop 0).take (mn m xs.length-0)=xs.take m
 rw[lF]
 show xs.take (min m xs.length)=_
 rcases Nat.le_total m xs.length with h|h
 ·rw[Nat.min_eq_left h]
 ·rw[Nat.min_eq_right h,List.take_length,List.take_of_length_le h]
noncomputable abbrev X4 (f:Fr)(k:D)(ro:Option D)(cv:Option V)(got:List D)(ws:List Nm)(pl:List D)(r:Stm)(st:Nat)(c:V)(Q:List V)(o:Q4)(X Y:List Nm)(A B:List V):List O:=XE f k ro cv got ws pl r st c Q o++[.lst (sD X),.gone,.lst (sD Y),.gone,.lst A,.lst B]
noncomputable abbrev NN:List Nat:=[8,7,10,9,11]
variable {X Y:List Nm}{ss:List D}{r2:Stm}
noncomputable def Fr.wc (f:Fr)(sp ca ss:D):Fr:=⟨f.sD,f.nD,f.tx,sp,ca,ss,f.fs,f.ds,f.n,f.r,f.f,f.j⟩
theorem Fr.wc_eq {f:Fr}{sp ca ss:D}(h:f.ca=ca)(h2:f.ss=ss)(h3:f.sp=sp):f.wc sp ca ss=f:=by cases h;cases h2;cases h3;rfl
noncomputable abbrev fU (f:Fr)(sp ca:D)(pl:List D):Fr:=f.wc sp ca (.lst pl)
theorem NO (hq:oP z.c.P pl)(hp:tT z r)(hc:aQ z r (.dat .non) r2)(hl:pl.length≤90000):
  RX z.c aK.names 13 eF (X2 (fU f (dY r) .non pl) k ro cv got ws pl r st c Q o X Y) (aK.body.drop 10) (.ret (.dat (.boo true))) (dU NN (X4 (fU f (dY r) .non pl) k ro cv got ws pl r st c Q o X Y (eR (dl pl) none none) (eR (dl pl) none none)) (SL r2)):=by
 have n1:Nat.ble (dl pl).length lim=true:=hY (by unfold dl;rw[List.length_map];exact hl)
 have e1:=Eb (c:=z.c) (n:=13) (hp:=X4 (fU f (dY r) .non pl) k ro cv got ws pl r st c Q o X Y (eR (dl pl) none none) (eR (dl pl) none none)) (a:=.ref 22) (b:=.ref 23) (ds:=pl) (congrArg some (yZ _)) (congrArg some (yZ _)) hq
 have n2:(iJ z.c.P 8 (dY r) (dY r)).yes=true:=eY (eS (l8 _ _) (eS (l8 _ _) nofun))
 exact z.useX (hs:=[.itm 1277011040 (.dat (.boo true)),.cal 126 2 NN (.dat (dY r)) (SL r),.cal 133 4 NN (.dat .non) (SL r2)])
  (g:=cg [(true,(iJ z.c.P 8 (dY r) (dY r)).yes),(true,Nat.ble (dl pl).length lim),(true,Nat.ble (dl pl).length lim)]) (aA n2 (aA n1 (aA n1 aE))) (an hc (an hp (an e1 trivial))) (by apply fO (f:=f) (ro:=ro);kernel_rfl)
theorem SO (h1:f.ca=.non)(h2:f.ss=.lst pl)(h3:f.sp=dY r)(hq:oP z.c.P pl)(hp:tT z r)(hc:aQ z r (.dat .non) r2)(hl:pl.length≤90000):
  RX z.c aK.names 13 eF (X2 f k ro cv got ws pl r st c Q o X Y) (aK.body.drop 10) (.ret (.dat (.boo true))) (dU NN (X4 f k ro cv got ws pl r st c Q o X Y (eR (dl pl) none none) (eR (dl pl) none none)) (SL r2)):=
 (Fr.wc_eq h1 h2 h3:fU f (dY r) .non pl=f)▸NO (f:=f) hq hp hc hl
theorem Ie {m:Nat}(hs:pl.take m=ss.take m)(hq:oP z.c.P (ss.take m))(hc:aQ z r (.dat .non) r2)(hl:pl.length≤90000)(hl2:ss.length≤90000):
  RX z.c aK.names 13 eF (X2 (fU f f.sp (.int (Int.ofNat m)) ss) k ro cv got ws pl r st c Q o X Y) (aK.body.drop 10) (.ret (.dat (.boo true))) (dU NN (X4 (fU f f.sp (.int (Int.ofNat m)) ss) k ro cv got ws pl r st c Q o X Y (eR (dl pl) none (some (Int.ofNat m))) (eR (dl ss) none (some (Int.ofNat m)))) (SL r2)):=by
 have n1:Nat.ble (dl pl).length lim=true:=hY (by unfold dl;rw[List.length_map];exact hl)
 have n3:Nat.ble (dl ss).length lim=true:=hY (by unfold dl;rw[List.length_map];exact hl2)
 have cu:∀ xs:List D,xs.take m=ss.take m→eR (dl xs) none (some (Int.ofNat m))=dl (ss.take m):=fun xs h=>by rw[y1,← h];unfold dl;rw[List.map_take]
 have e1:=Eb (c:=z.c) (n:=13) (hp:=X4 (fU f f.sp (.int (Int.ofNat m)) ss) k ro cv got ws pl r st c Q o X Y (eR (dl pl) none (some (Int.ofNat m))) (eR (dl ss) none (some (Int.ofNat m)))) (a:=.ref 22) (b:=.ref 23) (ds:=ss.take m) (congrArg some (cu pl hs)) (congrArg some (cu ss rfl)) hq
 exact z.useX (hs:=[.itm 1277011040 (.dat (.boo true)),.cal 133 4 NN (.dat .non) (SL r2)])
  (g:=cg [(true,Nat.ble (dl ss).length lim),(true,Nat.ble (dl pl).length lim)]) (aA n3 (aA n1 aE)) (an hc (an e1 trivial)) (by apply fO (f:=f) (ro:=ro);kernel_rfl)
theorem NP {m:Nat}(h1:f.ca=.int (Int.ofNat m))(h2:f.ss=.lst ss)(hs:pl.take m=ss.take m)(hq:oP z.c.P (ss.take m))(hc:aQ z r (.dat .non) r2)(hl:pl.length≤90000)(hl2:ss.length≤90000):
  RX z.c aK.names 13 eF (X2 f k ro cv got ws pl r st c Q o X Y) (aK.body.drop 10) (.ret (.dat (.boo true))) (dU NN (X4 f k ro cv got ws pl r st c Q o X Y (eR (dl pl) none (some (Int.ofNat m))) (eR (dl ss) none (some (Int.ofNat m)))) (SL r2)):=
 (Fr.wc_eq h1 h2 rfl:fU f f.sp (.int (Int.ofNat m)) ss=f)▸Ie (f:=f) hs hq hc hl hl2
end
end
section
noncomputable def wP:Nm:=[108,97,115,116]
noncomputable def wQ:Nm:=[108,105,110,101]
noncomputable def nW:Nm:=[99,111,108,117,109,110]
structure ZipI where
 es:List Expr
 tk:Nat
 tp:Pos
 gz:Expr
 r1:Expr
 r2:Expr
 zp:Pos
 b:List Stmt
 p:Pos
noncomputable def VO:Stmt→ZipI
 |.For (.Tuple es tk tp) (.Call gz [r1,r2] [] zp) b [] p=>⟨es,tk,tp,gz,r1,r2,zp,b,p⟩
 |_=>⟨[],0,fC,.Constant .none 0 fC,.Constant .none 0 fC,.Constant .none 0 fC,fC,[],fC⟩
noncomputable def ZipI.g (f:ZipI):Expr:=.Tuple f.es f.tk f.tp
noncomputable def ZipI.s (f:ZipI):Stmt:=.For (.Tuple f.es f.tk f.tp) (.Call f.gz [f.r1,f.r2] [] f.zp) f.b [] f.p
noncomputable def rK:Fn:=kS iU [30] []
noncomputable def rL:ZipI:=VO (fG rK.body 1)
noncomputable def pV (p:Int×Int)(a b:Nat):Int×Int:=bif nb [b] [13]||(nb [b] [10]&& !nb [a] [13])then(p.1+1,0)else bif !nb [b] [10]then(p.1,p.2+1)else p
noncomputable def l9:Int×Int→Nat→Nm→Int×Int
 |p,_,[]=>p
 |p,a,b::w=>l9 (pV p a b) b w
noncomputable abbrev lsE (eo:Option (Nat×Nat)):List (Nm×V):=match eo with
 |none=>[]
 |some e=>[(wP,.dat (.str [e.1])),(wO,.dat (.str [e.2]))]
noncomputable abbrev AX (s:D)(w:Nm)(p:Int×Int)(eo:Option (Nat×Nat)):List O:=[.fr ([(gS,.dat s),(aZ,.dat (.str w)),(wQ,.dat (.int p.1)),(nW,.dat (.int p.2))]++lsE eo)]
section
variable (z:bS){s:D}{w:Nm}{p:Int×Int}
noncomputable abbrev AF:Fx:=⟨0,[],true⟩
theorem y2:lL rK.names (fG (Rp (fG rL.b 0)) 0)=vV (Str.ofString "line") (Str.ofString "column"):=by kernel_rfl
theorem Ef {a b:Nat}:RX z.c rK.names 3 AF (AX s w p (some (a,b))) rL.b .next (AX s w (pV p a b) (some (a,b))):=by
 unfold pV
 cases h1:nb [b] [13]with
 |true=>exact z.useX (hs:=[.tst 1212011023 true]) (g:=cg [(true,nb [b] [13])]) (ob:=_∧True) (aA h1 aE) ⟨y2,trivial⟩ (by kernel_rfl)
 |false=>cases h2:nb [b] [10]with
  |false=>exact z.useX (hs:=[.tst 1212011023 false,.tst 1212028040 false,.tst 1214013025 true]) (g:=cg [(true,!nb [b] [10]),(false,nb [b] [10]),(false,nb [b] [13])]) (aA (by rw[h2];rfl) (aA h2 (aA h1 aE))) trivial (by kernel_rfl)
  |true=>cases h3:nb [a] [13]with
   |false=>exact z.useX (hs:=[.tst 1212011023 false,.tst 1212028040 true,.tst 1212045057 true]) (g:=cg [(true,!nb [a] [13]),(true,nb [b] [10]),(false,nb [b] [13])]) (ob:=_∧True) (aA (by rw[h3];rfl) (aA h2 (aA h1 aE))) ⟨y2,trivial⟩ (by kernel_rfl)
   |true=>exact z.useX (hs:=[.tst 1212011023 false,.tst 1212028040 true,.tst 1212045057 false,.tst 1214013025 false]) (g:=cg [(false,!nb [b] [10]),(false,!nb [a] [13]),(true,nb [b] [10]),(false,nb [b] [13])]) (aA (by rw[h2];rfl) (aA (by rw[h3];rfl) (aA h2 (aA h1 aE)))) trivial (by kernel_rfl)
theorem t9:∀ (t:Nm) (k a:Nat) (p:Int×Int) (eo:Option (Nat×Nat)),w.drop k=t→(32::w)[k]? =some a→∃ eo',ME z.c rK.names 3 AF rL.g rL.b (32::w) w (t.length+1) k (AX s w p eo) (AX s w (l9 p a t) eo')
 | [],k,a,p,eo,h,ha=>⟨eo,.stop (List.getElem?_eq_none (List.drop_eq_nil_iff.mp h)) ⟨a,ha⟩⟩
 |b::t,k,a,p,eo,h,ha=>by
  have hk:w[k]? =some b:=by have:=congrArg (·[0]?) h;simpa using this
  have ht:w.drop (k+1)=t:=by rw[← List.drop_drop,h];rfl
  obtain⟨eo',q⟩:=t9 t (k+1) b (pV p a b) (some (a,b)) ht hk
  have rg:RG z.c rK.names 3 AF (AX s w p eo) rL.g (.dat (.tup [.str [a],.str [b]])) (AX s w p (some (a,b))):=by
   cases eo with
   |none=>exact u8 (vs:=[.dat (.str [a]),.dat (.str [b])]) (by kernel_rfl) (by kernel_rfl) rfl (jJ (hp1:=[.fr [(gS,.dat s),(aZ,.dat (.str w)),(wQ,.dat (.int p.1)),(nW,.dat (.int p.2)),(wP,.dat (.str [a]))]]) (b0 (by kernel_rfl) (by kernel_rfl)) (jJ (b0 (by kernel_rfl) (by kernel_rfl)) u7))
   |some v=>exact u8 (vs:=[.dat (.str [a]),.dat (.str [b])]) (by kernel_rfl) (by kernel_rfl) rfl (jJ (hp1:=[.fr [(gS,.dat s),(aZ,.dat (.str w)),(wQ,.dat (.int p.1)),(nW,.dat (.int p.2)),(wP,.dat (.str [a])),(wO,.dat (.str [v.2]))]]) (b0 (by kernel_rfl) (by kernel_rfl)) (jJ (b0 (by kernel_rfl) (by kernel_rfl)) u7))
  exact⟨eo',.turn ha hk rg (Ef z) q⟩
theorem f7 (hw:w.length<90000):CallOk z.c 4 822 [.dat (fQ p),.dat (.str w)] [] (.dat (fQ (l9 p 32 w))) []:=by
 obtain⟨eo,q⟩:=t9 z (s:=fQ p) (w:=w) w 0 32 p none rfl rfl
 have h0:RE z.c rK.names 3 AF (AX (fQ p) w p none) rL.gz (.typ "zip") (AX (fQ p) w p none):=z.useE (hs:=[]) (g:=true) rfl trivial (by kernel_rfl)
 have h1:RE z.c rK.names 3 AF (AX (fQ p) w p none) rL.r1 (.dat (.str (32::w))) (AX (fQ p) w p none):=z.useE (hs:=[]) (g:=cg [(true,Nat.ble (1+w.length) lim)]) (aA (hY (by omega)) aE) trivial (by kernel_rfl)
 have h2:RE z.c rK.names 3 AF (AX (fQ p) w p none) rL.r2 (.dat (.str w)) (AX (fQ p) w p none):=z.useE (hs:=[]) (g:=true) rfl trivial (by kernel_rfl)
 have hz:RS z.c rK.names 3 AF (AX (fQ p) w p none) rL.s .next (AX (fQ p) w (l9 p 32 w) eo):=MG (by kernel_rfl) (by kernel_rfl) h0 (fJ h1 (fJ h2 jD)) q
 exact z.use (hs:=[.stm 1211 .next (AX (fQ p) w (l9 p 32 w) eo)]) (o:=.fz [] []) (g:=true) rfl (an hz trivial) (by cases eo <;>kernel_rfl)
end
end
section
noncomputable def iH:List (Nm×Nm×Option Nm):=[([112,108,97,105,110],[112,108,97,105,110],none),([108,13,109],[108,10,109],none),([120,13,10],[120,10],none),([32,13],[32,10],none),([121,10,233],[121,10,233],none),([1,98],[1,98],none),([38,97,109,112,59],[38],none),([38,110,111,116,105,110,59],[8713],none),([38,35,120,52,49,59],[65],none),([38,110,111,116,33],[172,33],some XZ),([60,32],[60,32],some Xe),([38,120,59],[38,120,59],some Xc),([60,62],[60,62],some XX)]
noncomputable def names:List (Nm×Nm):=[([97],[97]),([72,49],[104,49]),([120,45,121],[120,45,121])]
noncomputable def f8:List (Nm×Nm):=[([118],[118]),([],[]),([108,13,10,109],[108,10,109]),([49,38,108,116,59,50],[49,60,50]),([1,32,98],[1,32,98])]
noncomputable def j5:List (Nm×Nm):=[([],[]),([110],[110]),([108,13,109,32,45,32],[108,10,109,32,45,32]),([60,112,62,64976],[60,112,62,64976])]
noncomputable def eO:List Nm:=[[],[45],[100],[68,79,67,120,32,121],[100,111,99,116,121,112,233],[45,120,45],[101,108,101,109,101,110,116]]
noncomputable def eP:List (Nm×Item×Option Nm):=[([60,63,112,32,113,62],.note [63,112,32,113],some XW),([60,47,32,120,62],.note [32,120],some XY),([60,33,68,79,67,84,89,80,69,32,104,116,109,108,62],.doc [104,116,109,108],none),([60,33,100,111,99,116,121,112,101,13,10,88,32,62],.doc [120],none)]
noncomputable def Ig:Option Nm→D
 |none=>.non
 |some x=>.str x
noncomputable def d2 (a:Nm×Nm):D:=.tup [.str a.1,.str a.2]
noncomputable def d3 (a:Nm×Nm×Option Nm):D:=.tup [.str a.1,.str a.2.1,Ig a.2.2]
noncomputable def Tq (a:Nm×Item×Option Nm):D:=.tup [.str a.1,a.2.1.toD,Ig a.2.2]
section
variable (z:bS)
theorem rM:CallOk z.c 1 773 [] [] (.dat (.lst (iH.map d3))) []:=z.use (hs:=[]) (o:=.fz [] []) (g:=true) rfl trivial (by kernel_rfl)
theorem rN:CallOk z.c 1 780 [] [] (.dat (.lst (names.map d2))) []:=z.use (hs:=[]) (o:=.fz [] []) (g:=true) rfl trivial (by kernel_rfl)
theorem Eg:CallOk z.c 1 787 [] [] (.dat (.lst (f8.map d2))) []:=z.use (hs:=[]) (o:=.fz [] []) (g:=true) rfl trivial (by kernel_rfl)
theorem y3:CallOk z.c 1 794 [] [] (.dat (.lst (j5.map d2))) []:=z.use (hs:=[]) (o:=.fz [] []) (g:=true) rfl trivial (by kernel_rfl)
theorem j7:CallOk z.c 1 801 [] [] (.dat (.lst (eO.map Tk.D.str))) []:=z.use (hs:=[]) (o:=.fz [] []) (g:=true) rfl trivial (by kernel_rfl)
theorem Eh:CallOk z.c 1 808 [] [] (.dat (.lst (eP.map Tq))) []:=z.use (hs:=[]) (o:=.fz [] []) (g:=true) rfl trivial (by kernel_rfl)
end
theorem cF (i:Int)(k:Nat)(h:0<k):∃ j:Nat,Int.fmod i (Int.ofNat k)=Int.ofNat j∧j<k:=by
 have h1:(0:Int)≤i.fmod (k:Int):=Int.fmod_nonneg_of_pos _ (by omega)
 have h2:i.fmod (k:Int)<k:=Int.fmod_lt_of_pos _ (by omega)
 obtain⟨j,e⟩:=Int.eq_ofNat_of_zero_le h1
 exact⟨j,e,by rw[e]at h2;omega⟩
theorem Ae {j k:Nat}(h:j<k)(hk:k≤90000):c9 (Int.ofNat j)=true:=hY (n:=j) (by lia)
theorem y5 {c:Cx}{n:Nat}{hp:List O}{α:Type}(l:List α)(f:α→D){j:Nat}{x:α}(h:l[j]? =some x)(hj:j<90000):cG c n hp getItem c.VT (.dat (.lst (l.map f))) (.dat (.int (Int.ofNat j))) (.dat (f x)) hp:=
 tQ (xs:=dl (l.map f)) rfl (jW _ (by unfold dl;rw[List.getElem?_map,List.getElem?_map,h];rfl)) (Ae hj (Nat.le_refl _))
end
section
noncomputable def wR:Nm:=[116,117,114,110]
noncomputable def WZ:Nm:=[100]
noncomputable def y6:Nm:=[118,97,108,117,101]
noncomputable def y7:Nm:=[113,117,111,116,101]
noncomputable def Ih:Nm:=[115,109,97,108,108]
noncomputable def rO:Fn:=kS iU [29] []
noncomputable def Af:ForI:=Hf (fG rO.body 2)
noncomputable def q3 (b:Bool)(j:Nat):Nm:=bif Nat.beq j 0 then [34]else bif Nat.beq j 1 then [39]else bif b then []else [34]
noncomputable def s2 (j:Nat):Nm:=bif Nat.beq j 0 then [32]else [13,10]
noncomputable def oT (t:Nat):Nm:=bif Nat.beq t 0 then gU else [66]
noncomputable def eC (t:Nat):Nm:=bif Nat.beq t 0 then gU else [98]
noncomputable def Ts (s key q v:Nm):Nm:=((((s++key)++[61])++q)++v)++q
structure At5 where
 t:D
 d:D
 v:D
 m:D
 q:D
noncomputable abbrev SP (eo:Option At5):List (Nm×V):=match eo with
 |none=>[]
 |some a=>[(wR,.dat a.t),(WZ,.dat a.d),(y6,.dat a.v),(hV,.dat a.m),(y7,.dat a.q)]
noncomputable abbrev SQ (t:D)(eo:Option At5):List (Nm×V):=match eo with
 |none=>[(wR,.dat t)]
 |some a=>[(wR,.dat t),(WZ,.dat a.d),(y6,.dat a.v),(hV,.dat a.m),(y7,.dat a.q)]
noncomputable abbrev SX (n:Int)(nm sm W:Nm)(rows:List (Nm×Nm))(t0:D)(eo:List (Nm×V)):List O:=[.fr ([(Rf,.dat (.int n)),(fE,.dat (.str nm)),(Ih,.dat (.str sm)),(gR,.ref 1),(aZ,.dat (.str W))]++eo),.lst (dl (Ob rows)),.tup [.dat t0,.ref 1]]
noncomputable abbrev SF:Fx:=⟨0,[],true⟩
section
variable {α:Type}
noncomputable def sF (F:Nat→List (Nm×Nm)→Nat→Nat→Bool→Option At5→α)(p:Nm×Nm)(a:At5):=[(0,[]),(1,[p])].map fun x=>[0,1,2].map fun jq=>[0,1].map fun js=>[true,false].map fun b=>[none,some a].map fun eo=>F x.1 x.2 jq js b eo
noncomputable def sG (F:Nat→List (Nm×Nm)→Nat→Nat→Bool→Option At5→α)(p:Nm×Nm)(a:At5):=[(0,[]),(1,[p])].map fun x=>[0,1,2].map fun jq=>[0,1].map fun js=>[true,false].map fun b=>[none,some a].map fun eo=>F x.1 x.2 jq js b eo
theorem VP {F G:Nat→List (Nm×Nm)→Nat→Nat→Bool→Option At5→α}(h:sF F=sG G){t jq js:Nat}{rows:List (Nm×Nm)}{b:Bool}{eo:Option At5}(ht:(t=0∧rows=[])∨(t=1∧∃ p,rows=[p]))(q:jq=0∨jq=1∨jq=2)(s:js=0∨js=1):F t rows jq js b eo=G t rows jq js b eo:=
 have q1:jq∈[0,1,2]:=q.elim (· ▸ .head _) fun q=>q.elim (· ▸ .tail _ (.head _)) (· ▸ .tail _ (.tail _ (.head _)))
 have q2:js∈[0,1]:=s.elim (· ▸ .head _) (· ▸ .tail _ (.head _))
 have q3:b∈[true,false]:=match b with|true=>.head _|false=>.tail _ (.head _)
 have w:∀ p x,x∈[(0,[]),(1,[p])]→F x.1 x.2 jq js b eo=G x.1 x.2 jq js b eo:=fun p x m=>
  have k:=fun a=>List.map_inj_left.mp (List.map_inj_left.mp (List.map_inj_left.mp (List.map_inj_left.mp (congrFun (congrFun h p) a) x m) jq q1) js q2) b q3
  match eo with
  |none=>List.map_inj_left.mp (k ⟨.non,.non,.non,.non,.non⟩) none (.head _)
  |some a=>List.map_inj_left.mp (k a) (some a) (.tail _ (.head _))
 match ht with
 |.inl ⟨e1,e2⟩=>e1▸e2▸w ([],[]) (0,[]) (.head _)
 |.inr ⟨e1,p,e2⟩=>e1▸e2▸w p (1,[p]) (.tail _ (.head _))
noncomputable def tF (F:List Nat→Bool→α)(d e:Nat):=[[],[d],[d,e]].map fun x=>[true,false].map fun b=>F x b
noncomputable def tG (F:List Nat→Bool→α)(d e:Nat):=[[],[d],[d,e]].map fun x=>[true,false].map fun b=>F x b
end
section
variable (z:bS){n:Int}{nm sm W:Nm}{t0:D}
theorem la {α:Type}{x y:List α}{a b:Nat}(h:x.length≤a)(k:y.length≤b):(x++y).length≤a+b:=List.length_append▸Nat.add_le_add h k
theorem SR:∀ {k:Nat},k<2→k=0∨k=1
 |0,_=>.inl rfl
 |1,_=>.inr rfl
 |_+2,h=>absurd h (Nat.not_lt.mpr (Nat.le_add_left ..))
theorem Wa:∀ {k:Nat},k<3→k=0∨k=1∨k=2
 |0,_=>.inl rfl
 |1,_=>.inr (.inl rfl)
 |2,_=>.inr (.inr rfl)
 |_+3,h=>absurd h (Nat.not_lt.mpr (Nat.le_add_left ..))
theorem Ei (t:Nat):(oT t).length≤4:=by unfold oT;cases Nat.beq t 0 <;>decide
theorem SS:([61]:Nm).length≤1:=Nat.le_refl 1
theorem Ej (j:Nat):(s2 j).length≤2:=by unfold s2;cases Nat.beq j 0 <;>decide
theorem Ek (b:Bool)(j:Nat):(q3 b j).length≤1:=by unfold q3;cases Nat.beq j 0 <;>cases Nat.beq j 1 <;>cases b <;>decide
noncomputable abbrev jL (b:Bool):List O:=[.lst [.dat (.str [34]),.dat (.str [39]),.dat (.str (bif b then []else [34]))],.lst [.dat (.str [32]),.dat (.str [13,10])],.lst [.dat (.str gU),.dat (.str [66])],.lst [.dat (.str gU),.dat (.str [98])]]
theorem El (a b:Nat):Int.fdiv (Int.ofNat a) (Int.ofNat b)=Int.ofNat (a/b):=Int.ofNat_fdiv a b |>.symm
theorem Em (a b:Nat):Int.fmod (Int.ofNat a) (Int.ofNat b)=Int.ofNat (a%b):=(Int.ofNat_fmod a b).symm
theorem En {t d:Nat}{v m:Nm}{rows:List (Nm×Nm)}{b:Bool}{jq js:Nat}{eo:Option At5}(ht:(t=0∧rows=[])∨(t=1∧∃ p,rows=[p]))(hd:Int.fmod (Int.fdiv n (9*30 ^ t)) 30=Int.ofNat d)(hv:f8[d%5]? =some (v,m))(hb:nb v [118]=b)(hq:d/5%3=jq)(hs:d/15=js)(q:jq=0∨jq=1∨jq=2)(s:js=0∨js=1)(hl:W.length≤1000)(hl2:v.length≤1000):
  RX z.c rO.names 5 SF (SX n nm sm W rows t0 (SQ (.int (Int.ofNat t)) eo)) Af.b .next (SX n nm sm (W++Ts (s2 js) (oT t) (q3 b jq) v) (rows++[(eC t,m)]) t0 (SP (some ⟨.int (Int.ofNat t),.int (Int.ofNat d),.str v,.str m,.str (q3 b jq)⟩))++jL b):=by
 have h1:(V.dat (.int (Int.fmod (Int.fdiv n (9*30 ^ t)) 30)):V)=.dat (.int (Int.ofNat d)):=by rw[hd]
 have h2:∀ hp,cG z.c 5 hp getItem z.c.VT (.dat (.lst (f8.map d2))) (.dat (.int (Int.ofNat (d%5)))) (.dat (d2 (v,m))) hp:=fun hp=>y5 f8 d2 hv (Nat.lt_trans (Nat.mod_lt d (by decide:0<5)) (by decide))
 rw[← Em]at h2
 have h3:(V.dat (.int (Int.fmod (Int.fdiv (Int.ofNat d) (Int.ofNat 5)) (Int.ofNat 3))):V)=.dat (.int (Int.ofNat jq)):=by rw[El,Em,hq]
 have h4:(V.dat (.int (Int.fdiv (Int.ofNat d) (Int.ofNat 15))):V)=.dat (.int (Int.ofNat js)):=by rw[El,hs]
 have l1:=Ej js
 have l2:=Ek b jq
 have l3:=Ei t
 have u1:=la (la (la l1 l3) SS) l2
 have u2:=la u1 hl2
 have g4:Nat.ble ((s2 js++oT t++[61]++q3 b jq).length+v.length) lim=true:=hY (Nat.le_trans (Nat.add_le_add u1 hl2) (by decide))
 have g5:Nat.ble ((s2 js++oT t++[61]++q3 b jq++v).length+(q3 b jq).length) lim=true:=hY (Nat.le_trans (Nat.add_le_add u2 l2) (by decide))
 have g6:Nat.ble (W.length+(Ts (s2 js) (oT t) (q3 b jq) v).length) lim=true:=hY (Nat.le_trans (Nat.add_le_add hl (la u2 l2)) (by decide))
 exact z.useX (hs:=[.val 1202012038 (.dat (.int (Int.ofNat d))),.cal 787 1 [] (.dat (.lst (f8.map d2))) [],.sub 1203023043 (.dat (d2 (v,m))),.tst 1204033045 b,.val 1204056066 (.dat (.int (Int.ofNat jq))),.val 1205033040 (.dat (.int (Int.ofNat js)))])
  (g:=cg [(true,Nat.ble (W.length+(Ts (s2 js) (oT t) (q3 b jq) v).length) lim),(true,Nat.ble ((s2 js++oT t++[61]++q3 b jq++v).length+(q3 b jq).length) lim),(true,Nat.ble ((s2 js++oT t++[61]++q3 b jq).length+v.length) lim),(b,nb v [118])])
  (ob:=_∧_∧_∧_∧_∧True) (aA g6 (aA g5 (aA g4 (aA hb aE)))) ⟨h4,h3,h2,Eg z,h1,trivial⟩ (by apply VP (ht:=ht) (q:=q) (s:=s) (b:=b) (eo:=eo);kernel_rfl)
noncomputable def vD (d:Nat):Nm×Nm:=f8[d%5]?.getD ([],[])
theorem KH (d:Nat):f8[d%5]? =some (vD d):=by
 have:d%5<f8.length:=Nat.mod_lt _ (by decide)
 unfold vD
 rw[List.getElem?_eq_getElem this];rfl
theorem KJ (d:Nat):(vD d).1.length≤10:=(by decide+kernel:∀ x∈f8,x.1.length≤10) _ (List.mem_of_getElem? (KH d))
noncomputable def aW (t d:Nat):Nm:=Ts (s2 (d/15)) (oT t) (q3 (nb (vD d).1 [118]) (d/5%3)) (vD d).1
noncomputable def aM (t d:Nat):Nm×Nm:=(eC t,(vD d).2)
noncomputable def a5 (t d:Nat):At5:=⟨.int (Int.ofNat t),.int (Int.ofNat d),.str (vD d).1,.str (vD d).2,.str (q3 (nb (vD d).1 [118]) (d/5%3))⟩
theorem rP (t d:Nat):(aW t d).length≤30:=
 have l2:=Ek (nb (vD d).1 [118]) (d/5%3)
 Nat.le_trans (la (la (la (la (la (Ej (d/15)) (Ei t)) SS) l2) (KJ d)) l2) (by decide)
theorem nX {t d:Nat}{rows:List (Nm×Nm)}{eo:Option At5}(ht:(t=0∧rows=[])∨(t=1∧∃ p,rows=[p]))(hd:Int.fmod (Int.fdiv n (9*30 ^ t)) 30=Int.ofNat d)(d30:d<30)(hl:W.length≤1000):
  RX z.c rO.names 5 SF (SX n nm sm W rows t0 (SQ (.int (Int.ofNat t)) eo)) Af.b .next (SX n nm sm (W++aW t d) (rows++[aM t d]) t0 (SP (some (a5 t d)))++jL (nb (vD d).1 [118])):=
 En z ht hd (KH d) rfl rfl rfl (Wa (Nat.mod_lt _ (by decide))) (SR (Nat.div_lt_of_lt_mul d30)) hl (Nat.le_trans (KJ d) (by decide))
noncomputable def hZ (ds:List Nat):Nm:=match ds with
 | []=>[]
 | [d]=>aW 0 d
 |d::e::_=>aW 0 d++aW 1 e
noncomputable def wS (ds:List Nat):List (Nm×Nm):=match ds with
 | []=>[]
 | [d]=>[aM 0 d]
 |d::e::_=>[aM 0 d,aM 1 e]
noncomputable def Wb (ds:List Nat):Option At5:=match ds with
 | []=>none
 | [d]=>some (a5 0 d)
 |_::e::_=>some (a5 1 e)
inductive Ats (n:Int):List Nat→Prop
 |z (h:Int.fmod (Int.fdiv n 3) 3=0):Ats n []
 |o (d:Nat) (h:Int.fmod (Int.fdiv n 3) 3=1) (d30:d<30) (h0:Int.fmod (Int.fdiv n (9*30 ^ 0)) 30=Int.ofNat d):Ats n [d]
 |t (d e:Nat) (h:Int.fmod (Int.fdiv n 3) 3=2) (d30:d<30) (h0:Int.fmod (Int.fdiv n (9*30 ^ 0)) 30=Int.ofNat d) (e30:e<30) (h1:Int.fmod (Int.fdiv n (9*30 ^ 1)) 30=Int.ofNat e):Ats n [d,e]
theorem VQ {α:Type}{F G:List Nat→Bool→α}(h:tF F=tG G){n:Int}{ds:List Nat}{b:Bool}(t:Ats n ds):F ds b=G ds b:=
 have q3:b∈[true,false]:=match b with|true=>.head _|false=>.tail _ (.head _)
 have w:∀ d e x,x∈[[],[d],[d,e]]→F x b=G x b:=fun d e x m=>List.map_inj_left.mp (List.map_inj_left.mp (congrFun (congrFun h d) e) x m) b q3
 match t with
 |.z _=>w 0 0 _ (.head _)
 |.o d _ _ _=>w d 0 _ (.tail _ (.head _))
 |.t d e _ _ _ _ _=>w d e _ (.tail _ (.tail _ (.head _)))
theorem NQ (n:Int):∃ ds,Ats n ds:=by
 obtain⟨d,h0,d30⟩:=cF (Int.fdiv n (9*30 ^ 0)) 30 (by decide)
 obtain⟨e,h1,e30⟩:=cF (Int.fdiv n (9*30 ^ 1)) 30 (by decide)
 obtain⟨k,h,k3⟩:=cF (Int.fdiv n 3) 3 (by decide)
 have q:=Wa k3
 rcases q with rfl|rfl|rfl
 ·exact⟨_,.z h⟩
 ·exact⟨_,.o d h d30 h0⟩
 ·exact⟨_,.t d e h d30 h0 e30 h1⟩
theorem Eo {ds:List Nat}(h:Ats n ds)(hl:W.length≤900):RS z.c rO.names 5 SF (SX n nm sm W [] t0 []) Af.s .next (SX n nm sm (W++hZ ds) (wS ds) t0 (SP (Wb ds))):=by
 cases h with
 |z h=>
  have hv:(V.dat (.int (Int.fmod (Int.fdiv n 3) 3)):V)=.dat (.int 0):=by rw[h]
  have h1:RE z.c rO.names 5 SF (SX n nm sm W [] t0 []) Af.i (.rng 0 0) (SX n nm sm W [] t0 []):=z.useE (hs:=[.val 1201022032 (.dat (.int 0))]) (g:=true) rfl (an hv trivial) (by kernel_rfl)
  have e:W++hZ []=W:=List.append_nil W
  rw[e]
  exact kP (fun env x=>bW (by kernel_rfl) env x) h1 rfl rfl (m:=1) (.stop rfl rfl)
 |o d h d30 h0=>
  have hv:(V.dat (.int (Int.fmod (Int.fdiv n 3) 3)):V)=.dat (.int 1):=by rw[h]
  have h1:RE z.c rO.names 5 SF (SX n nm sm W [] t0 []) Af.i (.rng 0 1) (SX n nm sm W [] t0 []):=z.useE (hs:=[.val 1201022032 (.dat (.int 1))]) (g:=true) rfl (an hv trivial) (by kernel_rfl)
  exact kP (fun env x=>bW (by kernel_rfl) env x) h1 rfl rfl (m:=2) (.turn rfl rfl (b0 (hp1:=SX n nm sm W [] t0 (SQ (.int (Int.ofNat 0)) none)) (by kernel_rfl) (by kernel_rfl)) (nX z (.inl ⟨rfl,rfl⟩) h0 d30 (Nat.le_trans hl (by decide))) rfl (nP (fz:=[]) (τ:=[]) (v:=.dat .non) (by kernel_rfl)) (.stop rfl rfl))
 |t d e h d30 h0 e30 h1'=>
  have hv:(V.dat (.int (Int.fmod (Int.fdiv n 3) 3)):V)=.dat (.int 2):=by rw[h]
  have h1:RE z.c rO.names 5 SF (SX n nm sm W [] t0 []) Af.i (.rng 0 2) (SX n nm sm W [] t0 []):=z.useE (hs:=[.val 1201022032 (.dat (.int 2))]) (g:=true) rfl (an hv trivial) (by kernel_rfl)
  have ea:W++hZ [d,e]=(W++aW 0 d)++aW 1 e:=(List.append_assoc ..).symm
  rw[ea]
  exact kP (fun env x=>bW (by kernel_rfl) env x) h1 rfl rfl (m:=3) (.turn (hp3:=SX n nm sm (W++aW 0 d) [aM 0 d] t0 (SP (some (a5 0 d)))) rfl rfl (b0 (hp1:=SX n nm sm W [] t0 (SQ (.int (Int.ofNat 0)) none)) (by kernel_rfl) (by kernel_rfl)) (nX z (.inl ⟨rfl,rfl⟩) h0 d30 (Nat.le_trans hl (by decide))) rfl (nP (fz:=[]) (τ:=[]) (v:=.dat .non) (by kernel_rfl))
   (.turn rfl rfl (b0 (hp1:=SX n nm sm (W++aW 0 d) [aM 0 d] t0 (SQ (.int (Int.ofNat 1)) (some (a5 0 d)))) (by kernel_rfl) (by kernel_rfl)) (nX z (.inr ⟨rfl,_,rfl⟩) h1' e30 (Nat.le_trans (la hl (rP 0 d)) (by decide))) rfl (nP (fz:=[]) (τ:=[]) (v:=.dat .non) (by kernel_rfl)) (.stop rfl rfl)))
theorem Ii:lL rO.names (fG rO.body 1)=vV (Str.ofString "written") (Str.ofString "row"):=by kernel_rfl
noncomputable def iX (b:Bool):Nm:=bif b then [32,47,62]else [62]
noncomputable def Ep (nm:Nm)(ds:List Nat)(b:Bool):Nm:=((60::nm)++hZ ds)++iX b
theorem y8:∀ ds:List Nat,(hZ ds).length≤60
 | []=>Nat.zero_le _
 | [d]=>Nat.le_trans (rP 0 d) (by decide)
 |d::e::_=>la (rP 0 d) (rP 1 e)
theorem Er:∀ b,(iX b).length≤3
 |true=>Nat.le_refl 3
 |false=>by decide
theorem j8 {i:Nat}{nm sm:Nm}(h:names[i]? =some (nm,sm)):nm.length≤10:=(by decide+kernel:∀ x∈names,x.1.length≤10) _ (List.mem_of_getElem? h)
theorem Ij {i:Nat}{ds:List Nat}{b:Bool}(hi:Int.fmod n 3=Int.ofNat i)(hn:names[i]? =some (nm,sm))(h:Ats n ds)(hb:zT (.int (Int.fmod (Int.fdiv n 8100) 2)) (.int 1)=b):CallOk z.c 6 815 [.dat (.int n)] [] (.dat (.tup [.str (Ep nm ds b),(Item.start sm (wS ds) b).toD])) []:=by
 have hl:=j8 hn
 have hs:(60::nm).length≤11:=Nat.succ_le_succ hl
 have lt:i<90000:=by have:=(List.getElem?_eq_some_iff.mp hn).1;exact Nat.lt_trans this (by decide)
 have h1:∀ hp,cG z.c 5 hp getItem z.c.VT (.dat (.lst (names.map d2))) (.dat (.int (Int.fmod n 3))) (.dat (d2 (nm,sm))) hp:=fun hp=>by rw[hi];exact y5 names d2 hn lt
 have h2:=Eo z (nm:=nm) (sm:=sm) (W:=60::nm) (t0:=.str (60::nm)) h (Nat.le_trans hs (by decide))
 have h3:(V.dat (.boo (zT (.int (Int.fmod (Int.fdiv n 8100) 2)) (.int 1))):V)=.dat (.boo b):=by rw[hb]
 have g1:Nat.ble (1+nm.length) lim=true:=hY (Nat.le_trans (Nat.add_le_add_left hl 1) (by decide))
 have g2:Nat.ble (((60::nm)++hZ ds).length+(iX b).length) lim=true:=hY (Nat.le_trans (Nat.add_le_add (la hs (y8 ds)) (Er b)) (by decide))
 exact z.use (hs:=[.cal 780 1 [] (.dat (.lst (names.map d2))) [],.sub 1199018037 (.dat (d2 (nm,sm))),.stm 1201 .next (SX n nm sm ((60::nm)++hZ ds) (wS ds) (.str (60::nm)) (SP (Wb ds))),.val 1207014032 (.dat (.boo b)),.tst 1208032039 b]) (o:=.fz [1,3,4] []) (g:=cg [(true,Nat.ble (((60::nm)++hZ ds).length+(iX b).length) lim),(true,Nat.ble (1+nm.length) lim)]) (ob:=_∧_∧_∧_∧_∧True) (aA g2 (aA g1 aE)) ⟨h3,h2,Ii,h1,rN z,trivial⟩ (by apply VQ (t:=h) (b:=b);kernel_rfl)
end
end
section
noncomputable def iA:ForI:=Hf (fG aK.body 3)
noncomputable def JT (w m:D):Option JJ→JJ
 |none=>.m w m
 |some j=>match j with
  |.m _ _=>.m w m
  |.e _ b=>.em w m b
  |.me _ _ b=>.me w m b
  |.em _ _ b=>.em w m b
  |.ew _ b=>.ewm w m b
  |.ewm _ _ b=>.ewm w m b
noncomputable def JE (w b:D):Option JJ→JJ
 |none=>.e w b
 |some j=>match j with
  |.m _ a=>.me w a b
  |.e _ _=>.e w b
  |.me _ a _=>.me w a b
  |.em _ a _=>.em w a b
  |.ew _ _=>.ew w b
  |.ewm _ a _=>.ewm w a b
noncomputable def JS (w b:D):Option JJ→JJ
 |none=>.ew w b
 |some j=>JE w b (some j)
noncomputable def jO:Option JJ→List (Nm×V)
 |none=>[]
 |some j=>j.l
noncomputable def Oc:Option Nat→D
 |none=>.non
 |some m=>.int (Int.ofNat m)
noncomputable def vF (n:Int)(fo:Option Nm)(r k:Int)(l:List (Nm×V)):List (Nm×V):=[(Rf,.dat (.int n)),(rC,.dat (Ig fo)),(wK,.dat (.int r)),(wL,.dat (.int k))]++l
structure VS where
 k:D
 r:D
 f:D
 j:JJ
noncomputable def vN (n:D):Option VS→List (Nm×V)
 |none=>[(Rf,.dat n)]
 |some v=>[(Rf,.dat n),(rC,.dat v.f),(wK,.dat v.r),(wL,.dat v.k)]++v.j.l
noncomputable def vJ:Option VS→Option JJ
 |none=>none
 |some v=>some v.j
section
variable {α:Type}
noncomputable def wF (F:Option VS→α)(k r f:D):α×(D→D→D→List α):=(F none,jF fun j=>F (some ⟨k,r,f,j⟩))
noncomputable def wG (F:Option VS→α)(k r f:D):α×(D→D→D→List α):=(F none,jG fun j=>F (some ⟨k,r,f,j⟩))
noncomputable def uF (F:VS→α)(k r f:D):D→D→D→List α:=jF fun j=>F ⟨k,r,f,j⟩
noncomputable def uG (F:VS→α)(k r f:D):D→D→D→List α:=jG fun j=>F ⟨k,r,f,j⟩
theorem Ag {F G:VS→α}(h:uF F=uG G)(v:VS):F v=G v:=(by rcases v with⟨k,r,f,j⟩;exact tR (F:=fun j=>F ⟨k,r,f,j⟩) (G:=fun j=>G ⟨k,r,f,j⟩) (congrFun (congrFun (congrFun h k) r) f) j)
theorem VU {F G:Option VS→α}(h:wF F=wG G)(v:Option VS):F v=G v:=match v with
 |none=>congrArg (·.1) (congrFun (congrFun (congrFun h .non) .non) .non)
 |some ⟨k,r,f,j⟩=>tR (F:=fun j=>F (some ⟨k,r,f,j⟩)) (G:=fun j=>G (some ⟨k,r,f,j⟩)) (congrArg (·.2) (congrFun (congrFun (congrFun h k) r) f)) j
end
noncomputable def JJ.ww (w:D):JJ→JJ
 |.m _ a=>.m w a
 |.e _ b=>.e w b
 |.me _ a b=>.me w a b
 |.em _ a b=>.em w a b
 |.ew _ b=>.ew w b
 |.ewm _ a b=>.ewm w a b
theorem JJ.ww_eq {w:D}{j:JJ}(h:lk j.l aZ=some (.dat w)):j.ww w=j:=by cases j <;>(cases h;rfl)
structure Bas where
 sD:D
 ns:List Int
noncomputable def bQ (ns:List Int):List D:=ns.map Tk.D.int
noncomputable def iP (b:Bas)(tx:Nm)(p:Int×Int)(ca:Option Nat)(due fs pts:List D)(vs:List (Nm×V)):List O:=
 [.fr ([(dI,.dat b.sD),(fN,.ref 2),(aX,.dat (.str tx)),(gS,.dat (fQ p)),(nQ,.dat (Oc ca)),(jZ,.ref 5),(gT,.ref 4),(tO,.ref 3)]++vs),.cel none,.dls (bQ b.ns),.dls due,.dls fs,.dls pts]
noncomputable def HL (b:Bas)(tx:Nm)(p:Int×Int)(ca:Option Nat)(row:List Item)(fs:List Nm)(pts:List (Int×Int))(vs:List (Nm×V)):List O:=
 iP b tx p ca (rD row) (fs.map Tk.D.str) (pts.map fQ) vs
section
variable (z:bS){b:Bas}{tx:Nm}{p:Int×Int}{ca:Option Nat}{row:List Item}{fs:List Nm}{pts:List (Int×Int)}
theorem Et:lL aK.names (fG iA.b 0)=sU (Str.ofString "kind") (Str.ofString "rest") (Str.ofString "fault"):=by kernel_rfl
theorem NR {n:Int}{k:Nat}{v:Option VS}(h:Int.fmod n 7=Int.ofNat k):RS z.c aK.names 13 eF (HL b tx p ca row fs pts (vN (.int n) v)) (fG iA.b 0) .next (HL b tx p ca row fs pts (vF n none (Int.fdiv n 7) (Int.ofNat k) (jO (vJ v)))):=by
 have h1:(V.dat (.int (Int.fmod n 7)):V)=.dat (.int (Int.ofNat k)):=by rw[h]
 exact z.useS (hs:=[.val 1222029034 (.dat (.int (Int.ofNat k)))]) (g:=true) (ob:=_∧_∧True) rfl ⟨Et,h1,trivial⟩ (by apply VU (v:=v);kernel_rfl)
theorem SU {n r:Int}{k:Nat}{w:Nm}{j:JJ}(h1:tx.length+w.length≤80000):RX z.c aK.names 13 eF (HL b tx p ca row fs pts (vF n none r (Int.ofNat k) (j.ww (.str w)).l)) (iA.b.drop 2) .next (HL b (tx++w) (l9 p 32 w) ca row fs pts (vF n none r (Int.ofNat k) (j.ww (.str w)).l)):=
 z.useX (hs:=[.cal 822 4 [] (.dat (fQ (l9 p 32 w))) []]) (g:=cg [(true,Nat.ble (tx.length+w.length) lim)]) (ob:=_∧True) (aA (hY (Nat.le_trans h1 (by decide))) aE) ⟨f7 z (p:=p) (w:=w) (Nat.lt_of_le_of_lt (Nat.le_trans (Nat.le_add_left ..) h1) (by decide)),trivial⟩ (by apply tR (j:=j);kernel_rfl)
theorem SV {fd:List D}{x:Nm}{n r:Int}{k:Nat}{w:Nm}{j:JJ}(h1:tx.length+w.length≤80000)(h2:fd.length≤80000):RX z.c aK.names 13 eF (iP b tx p ca (rD row) fd (pts.map fQ) (vF n (some x) r (Int.ofNat k) (j.ww (.str w)).l)) (iA.b.drop 2) .next (iP b (tx++w) (l9 p 32 w) ca (rD row) (fd++[.str x]) (pts.map fQ) (vF n (some x) r (Int.ofNat k) (j.ww (.str w)).l)):=
 z.useX (hs:=[.cal 822 4 [] (.dat (fQ (l9 p 32 w))) []]) (g:=cg [(true,Nat.ble fd.length lim),(true,Nat.ble (tx.length+w.length) lim)]) (ob:=_∧True) (aA (hY (Nat.le_trans h2 (by decide))) (aA (hY (Nat.le_trans h1 (by decide))) aE)) ⟨f7 z (p:=p) (w:=w) (Nat.lt_of_le_of_lt (Nat.le_trans (Nat.le_add_left ..) h1) (by decide)),trivial⟩ (by apply tR (j:=j);kernel_rfl)
theorem SW {n r:Int}{k:Nat}{w:Nm}{fo:Option Nm}{j:JJ}(hj:(lk j.l aZ)=some (.dat (.str w)))(h1:tx.length+w.length≤80000)(h2:fs.length≤80000):RX z.c aK.names 13 eF (HL b tx p ca row fs pts (vF n fo r (Int.ofNat k) j.l)) (iA.b.drop 2) .next (HL b (tx++w) (l9 p 32 w) ca row (fs++fo.toList) pts (vF n fo r (Int.ofNat k) j.l)):=
 JJ.ww_eq hj ▸ (match fo with
 |none=>(List.append_nil fs).symm▸SU z h1
 |some x=>by
  unfold HL
  rw[List.map_append]
  exact SV z h1 (by rw[List.length_map];exact h2))
end
end
section
section
variable (z:bS){b:Bas}{tx:Nm}{p:Int×Int}{ca:Option Nat}{due fs pts:List D}{n r:Int}{k:Nat}{v:Option JJ}{w m:Nm}{fo:Option Nm}
noncomputable abbrev rQ:Stmt:=fG iA.b 1
noncomputable abbrev OT (z:bS)(r:Int)(w m:Nm)(fo:Option Nm):Prop:=∀ hp,cG z.c 13 hp getItem z.c.VT (.dat (.lst (iH.map d3))) (.dat (.int (Int.fmod r 13))) (.dat (d3 (w,m,fo))) hp
noncomputable abbrev KL (w m:Nm)(fo:Option Nm):List Hi:=[.cal 773 1 [] (.dat (.lst (iH.map d3))) [],.sub 1224036059 (.dat (d3 (w,m,fo)))]
noncomputable abbrev vT (n r:Int)(k:Nat)(v:Option JJ)(w m:Nm)(fo:Option Nm):List (Nm×V):=vF n fo r (Int.ofNat k) (JT (.str w) (.str m) v).l
theorem NS (hk:k=0∨k=1)(h:OT z r w m fo):RS z.c aK.names 13 eF (iP b tx p ca [] fs pts (vF n none r (Int.ofNat k) (jO v))) rQ .next (iP b tx p ca [(Item.text m).toD] fs pts (vT n r k v w m fo)):=
 z.useS (hs:=KL w m fo) (g:=true) (ob:=_∧_∧True) rfl ⟨h,rM z,trivial⟩ (by apply Mu (v:=v) (hk:=hk);kernel_rfl)
theorem SY (hk:k=0∨k=1)(h:OT z r w m fo){t:Nm}{j:Nat}(hb:Nat.ble (dl due).length lim=true)(hn:rU (dl due)=true)(ha:uR (dl due) (-1)=some (.dat (Item.text t).toD))(hj:oA (-1) due.length=some j)(hc:Nat.ble (t.length+m.length) lim=true):
  RS z.c aK.names 13 eF (iP b tx p ca due fs pts (vF n none r (Int.ofNat k) (jO v))) rQ .next (iP b tx p ca (due.set j (Item.text (t++m)).toD) fs pts (vT n r k v w m fo)):=by
 have hO:cG z.c 13 (iP b tx p ca due fs pts (vT n r k v w m fo)) getItem z.c.VT (.ref 3) (.dat (.int (-1))) (.dat (Item.text t).toD) (iP b tx p ca due fs pts (vT n r k v w m fo)):=tQ rfl ha rfl
 have hS:Jd z.c 13 (iP b tx p ca due fs pts (vT n r k v w m fo)) (.ref 3) (.dat (.int (-1))) (.dat (Item.text (t++m)).toD) (iP b tx p ca (due.set j (Item.text (t++m)).toD) fs pts (vT n r k v w m fo)):=yP (hp:=iP b tx p ca due fs pts (vT n r k v w m fo)) (l:=3) rfl hj rfl
 exact z.useS (hs:=KL w m fo++[.tst 1225015018 true,.itm 1225023030 (.dat (Item.text t).toD),.itm 1226035042 (.dat (Item.text t).toD),.set (iP b tx p ca (due.set j (Item.text (t++m)).toD) fs pts (vT n r k v w m fo))])
  (g:=cg [(true,Nat.ble (t.length+m.length) lim),(true,rU (dl due)),(true,Nat.ble (dl due).length lim)]) (ob:=_∧_∧_∧_∧_∧True) (aA hc (aA hn (aA hb aE))) ⟨hS,hO,hO,h,rM z,trivial⟩ (by apply Mu (v:=v) (hk:=hk);kernel_rfl)
theorem SZ (hk:k=0∨k=1)(h:OT z r w m fo){q:Nm}{ds:List D}(hb:Nat.ble (dl due).length lim=true)(hb2:Nat.ble due.length lim=true)(hn:rU (dl due)=true)(ha:uR (dl due) (-1)=some (.dat (.tup (.str q::ds))))(hm:nb q aX=false):
  RS z.c aK.names 13 eF (iP b tx p ca due fs pts (vF n none r (Int.ofNat k) (jO v))) rQ .next (iP b tx p ca (due++[(Item.text m).toD]) fs pts (vT n r k v w m fo)):=by
 have hO:cG z.c 13 (iP b tx p ca due fs pts (vT n r k v w m fo)) getItem z.c.VT (.ref 3) (.dat (.int (-1))) (.dat (.tup (.str q::ds))) (iP b tx p ca due fs pts (vT n r k v w m fo)):=tQ rfl ha rfl
 exact z.useS (hs:=KL w m fo++[.tst 1225015018 true,.itm 1225023030 (.dat (.tup (.str q::ds))),.tst 1225023043 false])
  (g:=cg [(true,Nat.ble due.length lim),(false,nb q aX),(true,rU (dl due)),(true,Nat.ble (dl due).length lim)]) (ob:=_∧_∧_∧True) (aA hb2 (aA hm (aA hn (aA hb aE)))) ⟨hO,h,rM z,trivial⟩ (by apply Mu (v:=v) (hk:=hk);kernel_rfl)
theorem NT {row:List Item}{fs:List Nm}{pts:List (Int×Int)}{i:Nat}(hk:k=0∨k=1)(hi:Int.fmod r 13=Int.ofNat i)(ht:iH[i]? =some (w,m,fo))(hf:Fits row [.text m]):
  RS z.c aK.names 13 eF (HL b tx p ca row fs pts (vF n none r (Int.ofNat k) (jO v))) rQ .next (HL b tx p ca (cS row (.text m)) fs pts (vT n r k v w m fo)):=by
 have h:OT z r w m fo:=fun hp=>by
  rw[hi]
  exact y5 iH d3 ht (Nat.lt_trans (List.getElem?_eq_some_iff.mp ht).1 (by decide))
 unfold HL
 match row,hW row,hf with
 |_,.none,_=>exact NS z hk h
 |_,.some a l,hf=>
  have hl:(rD (a++[l])).length≤90000:=by rw[List.length_map];have:=hf.b;lia
  have hb:Nat.ble (dl (rD (a++[l]))).length lim=true:=hY (by rw[List.length_map];exact hl)
  rw[cL,bX]
  rw[bX]at hl hb
  by_cases q:∀ s,l≠.text s
  ·have q:=EX l q
   rw[q.j,show a++[l,.text m]=(a++[l])++[.text m] by simp,bX,bX]
   have ha:=j2 (rD a) l.toD
   have hn:=j3 (rD a) l.toD
   rw[q.e]at ha hn hb hl ⊢
   exact SZ z hk h hb (hY hl) hn ha q.n
  ·obtain⟨t,rfl⟩:∃ t,l=.text t:=Classical.byContradiction fun q'=>q fun s e=>q' ⟨s,e⟩
   have hc:Nat.ble (t.length+m.length) lim=true:=hY (by
    have:=hf.a
    rw[fP]at this
    have this:cT a+(t.length+0)+(m.length+0)≤90000:=this
    lia)
   have q':=SY z (b:=b) (tx:=tx) (p:=p) (ca:=ca) (fs:=fs.map Tk.D.str) (pts:=pts.map fQ) (n:=n) (v:=v) hk h hb (j3 _ _) (j2 (rD a) _) (j:=(rD a).length) (by rw[List.length_append];rfl) hc
   rw[List.set_append_right _ _ (Nat.le_refl _),Nat.sub_self]at q'
   show RS _ _ _ _ _ _ _ (iP _ _ _ _ (rD (a++[.text (t++m)])) _ _ _)
   rw[bX]
   exact q'
end
end
section
noncomputable def aV:Nm:=XV
noncomputable def XQ:Stmt:=fG (Ju rQ) 0
noncomputable def We:Stmt:=fG (Ju XQ) 0
noncomputable def Wf:Stmt:=fG (Ju We) 0
noncomputable def XR:Stmt:=fG (Ju Wf) 0
section
variable (z:bS){b:Bas}{tx:Nm}{p:Int×Int}{ca:Option Nat}{due fs:List D}{pts:List (Int×Int)}{n r:Int}{v:Option JJ}{w m:Nm}{fo:Option Nm}{it:Item}
theorem VV:lL aK.names (fG (Rp We) 0)=vV (Str.ofString "written") (Str.ofString "entry"):=by kernel_rfl
theorem VW:lL aK.names (fG (Rp Wf) 0)=vV (Str.ofString "written") (Str.ofString "entry"):=by kernel_rfl
theorem Sa:lL aK.names (fG (Rp XR) 0)=vV (Str.ofString "written") (Str.ofString "entry"):=by kernel_rfl
noncomputable abbrev Sb (z:bS)(hp hp':List O):Prop:=RS z.c aK.names 13 eF hp rQ .next hp'
noncomputable abbrev pD (pts:List (Int×Int)):List D:=pts.map fQ
theorem rR {a:Nat}(h:a≤80000):Nat.ble a lim=true:=hY (Nat.le_trans h (by decide))
theorem NU (pts:List (Int×Int)):(pD pts).length=pts.length:=List.length_map ..
theorem nY {pts:List (Int×Int)}(h:pts.length≤80000):Nat.ble (pD pts).length lim=true:=rR (NU pts▸h)
theorem NV {x w y:Nm}(hl:w.length≤10)(h1:Nat.ble x.length 4=true)(h2:Nat.ble y.length 4=true):((x++w)++y).length<90000:=Nat.lt_of_le_of_lt (la (la (Nat.le_of_ble_eq_true h1) hl) (Nat.le_of_ble_eq_true h2)) (by decide)
theorem Ik {k:Nat}{w:Nm}(hl:w.length≤10)(h1:Nat.ble k 4=true):Nat.ble (k+w.length) lim=true:=rR (Nat.le_trans (Nat.add_le_add (Nat.le_of_ble_eq_true h1) hl) (by decide))
theorem Il {x w:Nm}{k:Nat}(hl:w.length≤10)(h1:Nat.ble x.length 4=true)(h2:Nat.ble k 4=true):Nat.ble ((x++w).length+k) lim=true:=rR (Nat.le_trans (Nat.add_le_add (la (Nat.le_of_ble_eq_true h1) hl) (Nat.le_of_ble_eq_true h2)) (by decide))
theorem Im {α:Type}{xs:List α}{i k:Nat}{x:α}(f:α→D)(hi:Int.fmod r (Int.ofNat k)=Int.ofNat i)(hn:xs[i]? =some x)(hl:Nat.ble xs.length 100=true)(hp:List O):cG z.c 13 hp getItem z.c.VT (.dat (.lst (xs.map f))) (.dat (.int (Int.fmod r (Int.ofNat k)))) (.dat (f x)) hp:=
 hi▸y5 xs f hn (Nat.lt_of_lt_of_le (List.getElem?_eq_some_iff.mp hn).1 (Nat.le_trans (Nat.le_of_ble_eq_true hl) (by decide)))
theorem j9 (pts:List (Int×Int))(q:Int×Int):pD (pts++[q])=pD pts++[fQ q]:=List.map_append ..
noncomputable abbrev Ah (p:Int×Int)(w:Nm):Hi:=.cal 822 4 [] (.dat (fQ (l9 p 32 w))) []
theorem Io (h:CallOk z.c 6 815 [.dat (.int r)] [] (.dat (.tup [.str w,it.toD])) [])(hw:w.length<80000)(h1:due.length≤80000)(h2:pts.length≤80000):
  Sb z (iP b tx p ca due fs (pD pts) (vF n none r 2 (jO v))) (iP b tx p ca (due++[it.toD]) fs (pD (pts++[l9 p 32 w])) (vF n none r 2 (JE (.str w) it.toD v).l)):=by
 have a:=f7 z (p:=p) (w:=w) (Nat.lt_trans hw (by decide))
 rw[j9]
 generalize it.toD=e at *
 exact z.useS (hs:=[.cal 815 6 [] (.dat (.tup [.str w,e])) [],Ah p w]) (g:=cg [(true,Nat.ble (pD pts).length lim),(true,Nat.ble due.length lim)]) (aA (nY h2) (aA (rR h1) aE)) (an a (an h trivial)) (by apply tS (v:=v);kernel_rfl)
theorem Sc {i:Nat}(hi:Int.fmod r 3=Int.ofNat i)(hn:names[i]? =some (w,m))(h1:due.length≤80000)(h2:pts.length≤80000):
  Sb z (iP b tx p ca due fs (pD pts) (vF n none r 3 (jO v))) (iP b tx p ca (due++[(Item.etag m).toD]) fs (pD (pts++[l9 p 32 (([60,47]++w)++[62])])) (vF n none r 3 (JS (.str (([60,47]++w)++[62])) (Item.etag m).toD v).l)):=by
 have hl:=j8 hn
 have a:=f7 z (p:=p) (w:=([60,47]++w)++[62]) (NV hl rfl rfl)
 have o:=Im z d2 (xs:=names) hi hn rfl
 rw[j9]
 exact z.useS (hs:=[.cal 780 1 [] (.dat (.lst (names.map d2))) [],.sub 1233041063 (.dat (d2 (w,m))),.cal 780 1 [] (.dat (.lst (names.map d2))) [],.sub 1233082104 (.dat (d2 (w,m))),Ah p (([60,47]++w)++[62])])
  (g:=cg [(true,Nat.ble (pD pts).length lim),(true,Nat.ble due.length lim),(true,Nat.ble (([60,47]++w).length+1) lim),(true,Nat.ble (2+w.length) lim)]) (ob:=_∧_∧_∧_∧_∧_∧True) (aA (nY h2) (aA (rR h1) (aA (Il hl rfl rfl) (aA (Ik hl rfl) aE)))) ⟨a,VV,o,rN z,o,rN z,trivial⟩ (by apply tS (v:=v);kernel_rfl)
theorem uA {i:Nat}{nm sm:Nm}(h:j5[i]? =some (nm,sm)):nm.length≤10:=(by decide+kernel:∀ x∈j5,x.1.length≤10) _ (List.mem_of_getElem? h)
theorem NW {i:Nat}(hi:Int.fmod r 4=Int.ofNat i)(hn:j5[i]? =some (w,m))(h1:due.length≤80000)(h2:pts.length≤80000):
  Sb z (iP b tx p ca due fs (pD pts) (vF n none r 4 (jO v))) (iP b tx p ca (due++[(Item.note m).toD]) fs (pD (pts++[l9 p 32 ((Xu++w)++[45,45,62])])) (vF n none r 4 (JS (.str ((Xu++w)++[45,45,62])) (Item.note m).toD v).l)):=by
 have hl:=uA hn
 have a:=f7 z (p:=p) (w:=(Xu++w)++[45,45,62]) (NV hl rfl rfl)
 have o:=Im z d2 (xs:=j5) hi hn rfl
 rw[j9]
 exact z.useS (hs:=[.cal 794 1 [] (.dat (.lst (j5.map d2))) [],.sub 1235043065 (.dat (d2 (w,m))),.cal 794 1 [] (.dat (.lst (j5.map d2))) [],.sub 1235087109 (.dat (d2 (w,m))),Ah p ((Xu++w)++[45,45,62])])
  (g:=cg [(true,Nat.ble (pD pts).length lim),(true,Nat.ble due.length lim),(true,Nat.ble ((Xu++w).length+3) lim),(true,Nat.ble (4+w.length) lim)]) (ob:=_∧_∧_∧_∧_∧_∧True) (aA (nY h2) (aA (rR h1) (aA (Il hl rfl rfl) (aA (Ik hl rfl) aE)))) ⟨a,VW,o,y3 z,o,y3 z,trivial⟩ (by apply tS (v:=v);kernel_rfl)
theorem pW {i:Nat}{nm:Nm}(h:eO[i]? =some nm):nm.length≤10:=(by decide+kernel:∀ x∈eO,x.length≤10) _ (List.mem_of_getElem? h)
noncomputable def Sd (k:Nat):Option Nat→Option Nat
 |none=>some k
 |some m=>some m
theorem NY {i:Nat}(hi:Int.fmod r 7=Int.ofNat i)(hn:eO[i]? =some w)(h1:due.length≤80000)(h2:pts.length≤80000):
  Sb z (iP b tx p ca due fs (pD pts) (vF n none r 5 (jO v))) (iP b tx p (Sd pts.length ca) (due++[(Item.note w).toD]) fs (pD (pts++[l9 p 32 (([60,33]++w)++[62])])) (vF n (some aV) r 5 (JS (.str (([60,33]++w)++[62])) (Item.note w).toD v).l)):=by
 have hl:=pW hn
 have a:=f7 z (p:=p) (w:=([60,33]++w)++[62]) (NV hl rfl rfl)
 have o:=Im z Tk.D.str (xs:=eO) hi hn rfl
 have g5:Nat.ble (dl (pD pts)).length lim=true:=(List.length_map .. :(dl (pD pts)).length=_)▸nY h2
 have o2:(V.dat (.int (Int.ofNat (dl (pD pts)).length)):V)=.dat (.int (Int.ofNat pts.length)):=by unfold dl pD;rw[List.length_map,List.length_map]
 rw[j9]
 cases ca with
 |none=>
  exact z.useS (hs:=[.cal 801 1 [] (.dat (.lst (eO.map Tk.D.str))) [],.sub 1237041064 (.dat (.str w)),.cal 801 1 [] (.dat (.lst (eO.map Tk.D.str))) [],.sub 1237081104 (.dat (.str w)),.val 1239023033 (.dat (.int (Int.ofNat pts.length))),Ah p (([60,33]++w)++[62])])
   (g:=cg [(true,Nat.ble (pD pts).length lim),(true,Nat.ble due.length lim),(true,Nat.ble (dl (pD pts)).length lim),(true,Nat.ble (([60,33]++w).length+1) lim),(true,Nat.ble (2+w.length) lim)]) (ob:=_∧_∧_∧_∧_∧_∧_∧True) (aA (nY h2) (aA (rR h1) (aA g5 (aA (Il hl rfl rfl) (aA (Ik hl rfl) aE))))) ⟨a,o2,Sa,o,j7 z,o,j7 z,trivial⟩ (by apply tS (v:=v);kernel_rfl)
 |some c=>
  exact z.useS (hs:=[.cal 801 1 [] (.dat (.lst (eO.map Tk.D.str))) [],.sub 1237041064 (.dat (.str w)),.cal 801 1 [] (.dat (.lst (eO.map Tk.D.str))) [],.sub 1237081104 (.dat (.str w)),Ah p (([60,33]++w)++[62])])
   (g:=cg [(true,Nat.ble (pD pts).length lim),(true,Nat.ble due.length lim),(true,Nat.ble (([60,33]++w).length+1) lim),(true,Nat.ble (2+w.length) lim)]) (ob:=_∧_∧_∧_∧_∧_∧True) (aA (nY h2) (aA (rR h1) (aA (Il hl rfl rfl) (aA (Ik hl rfl) aE)))) ⟨a,Sa,o,j7 z,o,j7 z,trivial⟩ (by apply tS (v:=v);kernel_rfl)
theorem Ip {i:Nat}(hi:Int.fmod r 4=Int.ofNat i)(hn:eP[i]? =some (w,it,fo))(hw:w.length<80000)(h1:due.length≤80000)(h2:pts.length≤80000):
  Sb z (iP b tx p ca due fs (pD pts) (vF n none r 6 (jO v))) (iP b tx p ca (due++[it.toD]) fs (pD (pts++[l9 p 32 w])) (vF n fo r 6 (JE (.str w) it.toD v).l)):=by
 have a:=f7 z (p:=p) (w:=w) (by lia)
 have o:=Im z Tq (xs:=eP) hi hn rfl
 rw[j9]
 exact z.useS (hs:=[.cal 808 1 [] (.dat (.lst (eP.map Tq))) [],.sub 1241040063 (.dat (Tq (w,it,fo))),Ah p w]) (g:=cg [(true,Nat.ble (pD pts).length lim),(true,Nat.ble due.length lim)]) (ob:=_∧_∧_∧True) (aA (nY h2) (aA (rR h1) aE)) ⟨a,o,Eh z,trivial⟩ (by apply tS (v:=v);kernel_rfl)
end
end
section
inductive Pc where
 |tx (i:Nat)|st (i:Nat) (ds:List Nat) (b:Bool)|en (i:Nat)|no (i:Nat)|ha (i:Nat)|ot (i:Nat)
noncomputable def y9 (i:Nat):Nm×Nm×Option Nm:=iH[i]?.getD ([],[],none)
noncomputable def iB (i:Nat):Nm×Nm:=names[i]?.getD ([],[])
noncomputable def Od (i:Nat):Nm×Nm:=j5[i]?.getD ([],[])
noncomputable def NZ (i:Nat):Nm:=eO[i]?.getD []
noncomputable def Oe (i:Nat):Nm×Item×Option Nm:=eP[i]?.getD ([],.text [],none)
noncomputable def Pc.w:Pc→Nm
 |.tx i=>(y9 i).1
 |.st i ds b=>Ep (iB i).1 ds b
 |.en i=>([60,47]++(iB i).1)++[62]
 |.no i=>(Xu++(Od i).1)++[45,45,62]
 |.ha i=>([60,33]++NZ i)++[62]
 |.ot i=>(Oe i).1
noncomputable def Pc.it:Pc→Item
 |.tx i=>.text (y9 i).2.1
 |.st i ds b=>.start (iB i).2 (wS ds) b
 |.en i=>.etag (iB i).2
 |.no i=>.note (Od i).2
 |.ha i=>.note (NZ i)
 |.ot i=>(Oe i).2.1
noncomputable def Pc.fo:Pc→Option Nm
 |.tx i=>(y9 i).2.2
 |.ha _=>some aV
 |.ot i=>(Oe i).2.2
 |_=>none
noncomputable def Pc.isT:Pc→Bool
 |.tx _=>true
 |_=>false
noncomputable def Pc.isH:Pc→Bool
 |.ha _=>true
 |_=>false
noncomputable def Na:List Nat→Prop
 | []=>True
 | [d]=>d<30
 | [d,e]=>d<30∧e<30
 |_=>False
noncomputable def Pc.ok:Pc→Prop
 |.tx i=>i<13
 |.st i ds _=>i<3∧Na ds
 |.en i=>i<3
 |.no i=>i<4
 |.ha i=>i<7
 |.ot i=>i<4
structure Lw where
 tx:Nm
 p:Int×Int
 ca:Option Nat
 row:List Item
 fs:List Nm
 pts:List (Int×Int)
noncomputable def Lw.step (s:Lw)(c:Pc):Lw:=⟨s.tx++c.w,l9 s.p 32 c.w,bif c.isH then Sd s.pts.length s.ca else s.ca,cS s.row c.it,s.fs++c.fo.toList,bif c.isT then s.pts else s.pts++[l9 s.p 32 c.w]⟩
noncomputable def LH (b:Bas)(s:Lw)(vs:List (Nm×V)):List O:=HL b s.tx s.p s.ca s.row s.fs s.pts vs
structure Sm (j:Nat) (s:Lw):Prop where
 tx:s.tx.length≤200*j
 ln:cT s.row≤200*j
 row:s.row.length≤j
 fs:s.fs.length≤j
 pts:s.pts.length≤j
theorem dQ {α:Type}{l:List α}{i:Nat}{d:α}(h:i<l.length):l[i]? =some (l[i]?.getD d):=by rw[List.getElem?_eq_getElem h];rfl
theorem VX:∀ x∈iH,x.1.length≤10∧x.2.1.length≤10:=by decide+kernel
theorem VY:∀ x∈eP,x.1.length≤20∧x.2.1.len≤10:=by decide+kernel
theorem Nb {x w y:Nm}(hl:w.length≤10)(h1:Nat.ble x.length 4=true)(h2:Nat.ble y.length 4=true):((x++w)++y).length≤190:=Nat.le_trans (la (la (Nat.le_of_ble_eq_true h1) hl) (Nat.le_of_ble_eq_true h2)) (by decide)
theorem Pc.wl:∀ {c:Pc},c.ok→c.w.length≤190∧c.it.len≤10
 |.tx _,h=>have m:=VX _ (List.mem_of_getElem? (dQ (d:=([],[],none)) h));⟨Nat.le_trans m.1 (by decide),m.2⟩
 |.st i ds b,h=>⟨Nat.le_trans (la (la (Nat.succ_le_succ (j8 (dQ (d:=([],[])) h.1)):(60::(iB i).1).length≤11) (y8 ds)) (Er b)) (by decide),Nat.zero_le _⟩
 |.en _,h=>⟨Nb (j8 (dQ (d:=([],[])) h)) rfl rfl,Nat.zero_le _⟩
 |.no _,h=>⟨Nb (uA (dQ (d:=([],[])) h)) rfl rfl,Nat.zero_le _⟩
 |.ha _,h=>⟨Nb (pW (dQ (d:=[]) h)) rfl rfl,Nat.zero_le _⟩
 |.ot _,h=>have m:=VY _ (List.mem_of_getElem? (dQ (d:=([],Item.text [],none)) h));⟨Nat.le_trans m.1 (by decide),m.2⟩
theorem Se (j:Nat):200*j+190≤200 * (j+1):=Nat.le_trans (Nat.add_le_add_left (by decide) _) (Nat.le_of_eq (Nat.mul_succ 200 j).symm)
theorem Sf:∀ o:Option Nm,o.toList.length≤1
 |none=>Nat.zero_le _
 |some _=>Nat.le_refl _
theorem Sh {l:List (Int×Int)}{j:Nat}{q:Int×Int}(h:l.length≤j):∀ b:Bool,(bif b then l else l++[q]).length≤j+1
 |true=>Nat.le_succ_of_le h
 |false=>la h (Nat.le_refl 1)
theorem Sm.step {j:Nat}{s:Lw}(h:Sm j s){c:Pc}(hc:c.ok):Sm (j+1) (s.step c):=
 have w:=Pc.wl hc
 have a:=tU s.row c.it
 ⟨Nat.le_trans (la h.tx w.1) (Se j),Nat.le_trans (Nat.le_of_eq a.1) (Nat.le_trans (Nat.add_le_add h.ln (Nat.le_trans w.2 (by decide))) (Se j)),Nat.le_trans a.2 (Nat.succ_le_succ h.row),la h.fs (Sf c.fo),Sh h.pts c.isT⟩
section
variable (z:bS){b:Bas}{s:Lw}{v:Option VS}{n:Int}
theorem VZ {w m:D}{v:Option JJ}:lk (JT w m v).l aZ=some (.dat w):=by
 cases v with
 |none=>rfl
 |some j=>cases j <;>rfl
theorem Si {w m:D}{v:Option JJ}:lk (JE w m v).l aZ=some (.dat w):=by
 cases v with
 |none=>rfl
 |some j=>cases j <;>rfl
theorem Nc {w m:D}{v:Option JJ}:lk (JS w m v).l aZ=some (.dat w):=by
 cases v with
 |none=>rfl
 |some j=>cases j <;>rfl
theorem Iq:iA.b=fG iA.b 0::rQ::iA.b.drop 2:=by kernel_rfl
noncomputable def Fi (z:bS)(b:Bas)(s:Lw)(v:Option VS)(n:Int):Prop:=∃ c:Pc,c.ok∧∃ v':VS,RX z.c aK.names 13 eF (LH b s (vN (.int n) v)) iA.b .next (LH b (s.step c) (vN (.int n) (some v')))
structure Bd (s:Lw):Prop where
 x:s.tx.length≤1200
 l:cT s.row≤1200
 d:(rD s.row).length≤80000
 f:s.fs.length≤80000
 p:s.pts.length≤80000
theorem KM {k:Nat}{c:Pc}{J:JJ}(hk:Int.fmod n 7=Int.ofNat k)(B:Bd s)(hc:c.ok)(hJ:lk J.l aZ=some (.dat (.str c.w)))
  (h:RS z.c aK.names 13 eF (HL b s.tx s.p s.ca s.row s.fs s.pts (vF n none (Int.fdiv n 7) (Int.ofNat k) (jO (vJ v)))) rQ .next (HL b s.tx s.p (s.step c).ca (s.step c).row s.fs (s.step c).pts (vF n c.fo (Int.fdiv n 7) (Int.ofNat k) J.l))):Fi z b s v n:=
 ⟨c,hc,⟨.int (Int.ofNat k),.int (Int.fdiv n 7),Ig c.fo,J⟩,by
  rw[Iq]
  exact cI (NR z hk) (cI h (SW z (w:=c.w) hJ (Nat.le_trans (Nat.add_le_add B.x (Pc.wl hc).1) (by decide)) B.f))⟩
theorem uB {k:Nat}{c:Pc}{J:JJ}(nt:∀ l,lK l c.it=[l,c.it])(hk:Int.fmod n 7=Int.ofNat k)(B:Bd s)(hc:c.ok)(hJ:lk J.l aZ=some (.dat (.str c.w)))
  (h:RS z.c aK.names 13 eF (iP b s.tx s.p s.ca (rD s.row) (s.fs.map Tk.D.str) (pD s.pts) (vF n none (Int.fdiv n 7) (Int.ofNat k) (jO (vJ v)))) rQ .next (iP b s.tx s.p (s.step c).ca (rD s.row++[c.it.toD]) (s.fs.map Tk.D.str) (pD (s.step c).pts) (vF n c.fo (Int.fdiv n 7) (Int.ofNat k) J.l))):Fi z b s v n:=
 KM z hk B hc hJ (by
  unfold HL
  rw[show(s.step c).row=cS s.row c.it from rfl,gV nt,bX]
  exact h)
theorem Eu {k:Nat}(q:k=0∨k=1)(hk:Int.fmod n 7=Int.ofNat k)(B:Bd s):Fi z b s v n:=(by rcases cF (Int.fdiv n 7) 13 (by decide)with⟨i,hi,i13⟩;exact KM z (c:=.tx i) hk B i13 VZ (NT z (w:=(y9 i).1) (m:=(y9 i).2.1) (fo:=(y9 i).2.2) q hi (dQ (d:=([],[],none)) i13) ⟨Nat.le_trans (Nat.add_le_add B.l (Pc.wl (c:=.tx i) i13).2) (by decide),Nat.le_trans (Nat.succ_le_succ (Nat.le_trans (Nat.le_of_eq (List.length_map ..).symm) B.d)) (by decide)⟩))
theorem Sj {ds:List Nat}:Ats n ds→Na ds
 |.z _=>trivial
 |.o _ _ d30 _=>d30
 |.t _ _ _ d30 _ e30 _=>⟨d30,e30⟩
theorem Nd (hk:Int.fmod n 7=Int.ofNat 2)(B:Bd s):Fi z b s v n:=match cF (Int.fdiv n 7) 3 (by decide),NQ (Int.fdiv n 7)with
 |⟨i,hi,i3⟩,⟨ds,hds⟩=>
  have ok:(Pc.st i ds (zT (.int (Int.fmod (Int.fdiv (Int.fdiv n 7) 8100) 2)) (.int 1))).ok:=⟨i3,Sj hds⟩
  uB z (c:=.st i ds _) (fun _=>rfl) hk B ok Si (Io z (v:=vJ v) (it:=(Pc.st i ds _).it) (Ij z (nm:=(iB i).1) (sm:=(iB i).2) hi (dQ (d:=([],[])) i3) hds rfl) (Nat.lt_of_le_of_lt (Pc.wl ok).1 (by decide)) B.d B.p)
theorem Nf (hk:Int.fmod n 7=Int.ofNat 3)(B:Bd s):Fi z b s v n:=(by rcases cF (Int.fdiv n 7) 3 (by decide)with⟨i,hi,i3⟩;exact uB z (c:=.en i) (fun _=>rfl) hk B i3 Nc (Sc z (v:=vJ v) (w:=(iB i).1) (m:=(iB i).2) hi (dQ (d:=([],[])) i3) B.d B.p))
theorem Ng (hk:Int.fmod n 7=Int.ofNat 4)(B:Bd s):Fi z b s v n:=(by rcases cF (Int.fdiv n 7) 4 (by decide)with⟨i,hi,i4⟩;exact uB z (c:=.no i) (fun _=>rfl) hk B i4 Nc (NW z (v:=vJ v) (w:=(Od i).1) (m:=(Od i).2) hi (dQ (d:=([],[])) i4) B.d B.p))
theorem Nh (hk:Int.fmod n 7=Int.ofNat 5)(B:Bd s):Fi z b s v n:=(by rcases cF (Int.fdiv n 7) 7 (by decide)with⟨i,hi,i7⟩;exact uB z (c:=.ha i) (fun _=>rfl) hk B i7 Nc (NY z (v:=vJ v) (w:=NZ i) hi (dQ (d:=[]) i7) B.d B.p))
noncomputable def Item.noT:Item→Bool
 |.text _=>false
 |_=>true
theorem Ni {l:Item}:∀ {it:Item},it.noT=true→lK l it=[l,it]
 |.start ..,_=>rfl
 |.etag _,_=>rfl
 |.note _,_=>rfl
 |.doc _,_=>rfl
theorem Nj:∀ x∈eP,x.2.1.noT=true:=by decide+kernel
theorem Nk (hk:Int.fmod n 7=Int.ofNat 6)(B:Bd s):Fi z b s v n:=match cF (Int.fdiv n 7) 4 (by decide)with
 |⟨i,hi,i4⟩=>
  have m:=dQ (l:=eP) (d:=([],Item.text [],none)) i4
  uB z (c:=.ot i) (fun _=>Ni (Nj _ (List.mem_of_getElem? m))) hk B i4 Si (Ip z (v:=vJ v) (w:=(Oe i).1) (it:=(Oe i).2.1) (fo:=(Oe i).2.2) hi m (Nat.lt_of_le_of_lt (Pc.wl (c:=.ot i) i4).1 (by decide)) B.d B.p)
theorem one {j:Nat}(h:Sm j s)(hj:j≤6):Fi z b s v n:=
 have B:Bd s:=⟨Nat.le_trans h.tx (Nat.mul_le_mul_left 200 hj),Nat.le_trans h.ln (Nat.mul_le_mul_left 200 hj),Nat.le_trans (Nat.le_of_eq (List.length_map ..)) (Nat.le_trans (Nat.le_trans h.row hj) (by decide)),Nat.le_trans (Nat.le_trans h.fs hj) (by decide),Nat.le_trans (Nat.le_trans h.pts hj) (by decide)⟩
 (cF n 7 (by decide)).elim fun _ q=>Rh (P:=fun k=>Int.fmod n 7=Int.ofNat k→Fi z b s v n) (n:=7) ⟨⟨⟨⟨⟨⟨⟨trivial,fun hk=>Eu z (.inl rfl) hk B⟩,fun hk=>Eu z (.inr rfl) hk B⟩,fun hk=>Nd z hk B⟩,fun hk=>Nf z hk B⟩,fun hk=>Ng z hk B⟩,fun hk=>Nh z hk B⟩,fun hk=>Nk z hk B⟩ q.2 q.1
end
end
section
noncomputable def vO:Option (D×VS)→List (Nm×V)
 |none=>[]
 |some v=>vN v.1 (some v.2)
noncomputable def Wg (v:Option (D×VS)):Option VS:=match v with
 |none=>none
 |some v=>some v.2
section
variable (z:bS){b:Bas}
theorem Va {ns:List Int}{k:Nat}{n:Int}(h:ns[k]? =some n):(dl (bQ ns))[k]? =some (.dat (.int n)):=by unfold dl bQ;rw[List.getElem?_map,List.getElem?_map,h];rfl
theorem loop:∀ (t:List Int) (k j:Nat) (s:Lw) (v:Option (D×VS)),b.ns.drop k=t→Sm j s→j+t.length≤6→∃ cs:List Pc,cs.length=t.length∧(∀ c∈cs,c.ok)∧∃ v',((∃ u,v=some u)∨t≠[]→∃ u,v'=some u)∧Bn z.c aK.names 13 eF iA.g iA.b 6 (.ref 2) (t.length+1) k (LH b s (vO v)) .next (LH b (cs.foldl Lw.step s) (vO v'))
 | [],k,j,s,v,h,_,_=>⟨[],rfl,nofun,v,fun h=>h.elim id fun h=>absurd rfl h,.stop (all:=dl (bQ b.ns)) rfl (by unfold dl bQ;rw[List.getElem?_map,List.getElem?_map,List.getElem?_eq_none (List.drop_eq_nil_iff.mp h)];rfl)⟩
 |n::t,k,j,s,v,h,sm,hj=>by
  have hj:j+(t.length+1)≤6:=hj
  have hk:b.ns[k]? =some n:=by have:=congrArg (·[0]?) h;simpa using this
  have ht:b.ns.drop (k+1)=t:=by rw[← List.drop_drop,h];rfl
  obtain⟨c,hc,v1,q⟩:=one z (b:=b) (v:=Wg v) (n:=n) sm (by lia)
  obtain⟨cs,e,ok,v',hv,r⟩:=loop t (k+1) (j+1) (s.step c) (some (.int n,v1)) ht (sm.step hc) (by lia)
  have rg:RG z.c aK.names 13 eF (LH b s (vO v)) iA.g (.dat (.int n)) (LH b s (vN (.int n) (Wg v))):=by
   cases v with
   |none=>exact b0 (by kernel_rfl) (by kernel_rfl)
   |some v=>
    obtain⟨d,k',r',f',J⟩:=v
    exact b0 (by kernel_rfl) (by apply tR (j:=J);kernel_rfl)
  exact⟨c::cs,congrArg Nat.succ e,eS hc ok,v',fun _=>hv (.inl ⟨_,rfl⟩),.turn (all:=dl (bQ b.ns)) rfl (Va hk) rg q rfl .id r⟩
noncomputable def s0:Lw:=⟨[],(1,0),none,[],[],[]⟩
theorem zA:lL aK.names (fG aK.body 2)=sU (Str.ofString "due") (Str.ofString "faults") (Str.ofString "spots"):=by kernel_rfl
noncomputable abbrev HA (S X:List D)(n d:Nat)(J:List O):List O:=[.fr [(dI,.dat (.lst S)),(fN,.ref n),(aX,.dat (.str [])),(gS,.dat (.tup [.int 1,.int 0])),(nQ,.dat .non),(jZ,.ref (d+2)),(gT,.ref (d+1)),(tO,.ref d)],.cel none]++J
theorem Ew (ns:List Int)(k:Nat):eR (dl (bQ ns)) none (some (Int.ofNat k))=dl (bQ (ns.take k)):=by rw[y1];unfold dl bQ;rw[List.map_take,List.map_take]
theorem Sk {ns:List Int}(hn:ns.length≤1000):∃ ms:List Int,ms≠[]∧ms.length≤6∧RX z.c aK.names 13 eF [.fr [(dI,.dat (.lst (bQ ns)))],.cel none] (aK.body.take 3) .next (LH ⟨.lst (bQ ns),ms⟩ s0 []):=by
 cases ns with
 |nil=>
  refine⟨[75,6],nofun,by decide,?_⟩
  have h:RX z.c aK.names 13 eF [.fr [(dI,.dat (.lst []))],.cel none] (aK.body.take 3) .next (HA [] [] 3 4 [.lst [.dat (.int 75),.dat (.int 6)],.lst [.dat (.int 75),.dat (.int 6)],.lst [],.lst [],.lst [],.tup [.ref 4,.ref 5,.ref 6]]):=z.useX (hs:=[]) (g:=true) (ob:=_∧True) rfl ⟨zA,trivial⟩ (by kernel_rfl)
  have h1:=EN h (nP (hp':=HA [] [] 2 3 [.lst [.dat (.int 75),.dat (.int 6)],.lst [],.lst [],.lst []]) (v:=.dat .non) (fz:=[]) (τ:=[3,4,5,6]) (by kernel_rfl))
  exact dH (dH (dH (dH h1 (l:=2) (ds:=bQ [75,6]) rfl) (l:=3) (ds:=[]) rfl) (l:=4) (ds:=[]) rfl) (l:=5) (ds:=[]) rfl
 |cons a ns=>
  refine⟨(a::ns).take 6,nofun,List.length_take_le ..,?_⟩
  have hb:Nat.ble (dl (bQ (a::ns))).length lim=true:=hY (by unfold dl bQ;rw[List.length_map,List.length_map];lia)
  have e:=Ew (a::ns) 6
  have h:RX z.c aK.names 13 eF [.fr [(dI,.dat (.lst (bQ (a::ns))))],.cel none] (aK.body.take 3) .next (HA (bQ (a::ns)) [] 2 3 [.lst (eR (dl (bQ (a::ns))) none (some (Int.ofNat 6))),.lst [],.lst [],.lst [],.tup [.ref 3,.ref 4,.ref 5]]):=z.useX (hs:=[]) (g:=cg [(true,Nat.ble (dl (bQ (a::ns))).length lim),(true,Nat.ble (dl (bQ (a::ns))).length lim)]) (ob:=_∧True) (aA hb (aA hb aE)) ⟨zA,trivial⟩ (by kernel_rfl)
  rw[e]at h
  have h1:=dH h (l:=2) (ds:=bQ ((a::ns).take 6)) rfl
  have h2:=EN h1 (nP (hp':=HA (bQ (a::ns)) [] 2 3 [.dls (bQ ((a::ns).take 6)),.lst [],.lst [],.lst []]) (v:=.dat .non) (fz:=[]) (τ:=[2,3,4,5]) (by kernel_rfl))
  exact dH (dH (dH h2 (l:=3) (ds:=[]) rfl) (l:=4) (ds:=[]) rfl) (l:=5) (ds:=[]) rfl
theorem Ey:Sm 0 s0:=⟨Nat.zero_le _,Nat.zero_le _,Nat.zero_le _,Nat.zero_le _,Nat.zero_le _⟩
theorem Sl {ns:List Int}(hn:ns.length≤1000):∃ (ms:List Int) (cs:List Pc) (n:D) (v:VS),cs≠[]∧cs.length≤6∧(∀ c∈cs,c.ok)∧RX z.c aK.names 13 eF [.fr [(dI,.dat (.lst (bQ ns)))],.cel none] (aK.body.take 4) .next (LH ⟨.lst (bQ ns),ms⟩ (cs.foldl Lw.step s0) (vN n (some v))):=by
 obtain⟨ms,ne,le,h⟩:=Sk z hn
 obtain⟨cs,e,ok,v',hv,r⟩:=loop z (b:=⟨.lst (bQ ns),ms⟩) ms 0 0 s0 none rfl Ey (by lia)
 obtain⟨⟨n,v⟩,rfl⟩:=hv (.inr ne)
 refine⟨ms,cs,n,v,fun q=>ne (List.length_eq_zero_iff.mp (by rw[← e,q];rfl)),by lia,ok,?_⟩
 have h1:RE z.c aK.names 13 eF (LH ⟨.lst (bQ ns),ms⟩ s0 []) iA.i (.ref 2) (LH ⟨.lst (bQ ns),ms⟩ s0 []):=z.useE (hs:=[]) (g:=true) rfl trivial (by kernel_rfl)
 have s:RS z.c aK.names 13 eF (LH ⟨.lst (bQ ns),ms⟩ s0 []) iA.s .next (LH ⟨.lst (bQ ns),ms⟩ (cs.foldl Lw.step s0) (vN n (some v))):=kP (fun env x=>bW (by kernel_rfl) env x) h1 rfl rfl r
 have eb:aK.body.take 3++[iA.s]=aK.body.take 4:=by kernel_rfl
 rw[← eb]
 exact k6 h (cI s u0)
end
end
section
structure CalI where
 g:Expr
 r:Expr
 p:Pos
noncomputable def Vb:Expr→CalI
 |.Call g [r] [] p=>⟨g,r,p⟩
 |_=>⟨.Constant .none 0 fC,.Constant .none 0 fC,fC⟩
noncomputable def CalI.e (f:CalI):Expr:=.Call f.g [f.r] [] f.p
noncomputable def Nl:CalI:=Vb (match fG aK.body 5 with|.Expr (.Call _ [.BinOp _ _ (.BinOp l _ _ _) _] _ _) _=>l|_=>.Constant .none 0 fC)
theorem uC:∀ ns:List Int,iK (dl (bQ ns))=some ns
 | []=>rfl
 |n::r=>by
  have h:=uC r
  show((iK (dl (bQ r))).map (n::·))=_
  rw[h];rfl
section
variable (z:bS){b:Bas}{tx:Nm}{p:Int×Int}{ca:Option Nat}{due fs pts:List D}{n:D}{v:VS}{k:Nat}{r1:Stm}
noncomputable abbrev HT (b:Bas)(tx:Nm)(p:Int×Int)(ca:Option Nat)(due fs pts:List D)(n:D)(v:VS)(J:List O):List O:=
 [.fr ([(dI,.dat b.sD),(fN,.ref 2),(aX,.dat (.str tx)),(gS,.dat (fQ p)),(nQ,.dat (Oc ca)),(jZ,.ref 5),(gT,.ref 4),(tO,.ref 3)]++vN n (some v)++[(nR,.ref 7)]),.cel none,.dls (bQ b.ns),.dls due,.dls fs,.dls pts]++J
noncomputable abbrev Ai (r:Stm)(J:List O):List O:=[.ns [(cP,.ref 9),(cQ,.dat .non),(bD,.dat (.boo false)),(aR,.dat (.lst [])),(dS,.mth 304 7),(cR,.dat (.boo false)),(aU,.dat .non)],.ins 762 6,
  strE r 9 11 12,.ins 166 8,.ns [(aX,.dat (.str r.text)),(dR,.dat (.int r.place))],.ins 73 10,.dls (qZ r.er)]++J
noncomputable abbrev rZ (tx:Nm):Stm:=⟨tx,0,[],0,none,0,0,0⟩
theorem Sn:RS z.c aK.names 13 eF (iP b tx p ca due fs pts (vN n (some v))) (fG aK.body 4) .next (HT b tx p ca due fs pts n v (Ai (rZ tx) [])):=
 z.useS (hs:=[.cal 261 8 [6,7] (.dat .non) (WV tx)]) (g:=true) (ob:=_∧True) rfl ⟨Re z (t:=tx),trivial⟩ (by apply Ag (v:=v);kernel_rfl)
theorem So:RE z.c aK.names 13 eF (HT b tx p ca due fs pts n v (Ai (rZ tx) [])) Nl.e (.dat (.int (kR b.ns 0))) (HT b tx p ca due fs pts n v (Ai (rZ tx) [])):=by
 have h1:RE z.c aK.names 13 eF (HT b tx p ca due fs pts n v (Ai (rZ tx) [])) Nl.g (.blt "sum") (HT b tx p ca due fs pts n v (Ai (rZ tx) [])):=z.useE (hs:=[]) (g:=true) rfl trivial (by apply Ag (v:=v);kernel_rfl)
 have h2:RE z.c aK.names 13 eF (HT b tx p ca due fs pts n v (Ai (rZ tx) [])) Nl.r (.ref 2) (HT b tx p ca due fs pts n v (Ai (rZ tx) [])):=z.useE (hs:=[]) (g:=true) rfl trivial (by apply Ag (v:=v);kernel_rfl)
 exact xS (by kernel_rfl) (vS (by kernel_rfl)) h1 (fJ h2 jD) (vX (xs:=dl (bQ b.ns)) rfl (uC b.ns))
theorem Nn (hl:tx.length≤80000)(hk:2+Int.fmod (kR b.ns 0) (Int.ofNat tx.length+1)=Int.ofNat k)(h:CH z (rZ tx) [.dat (.int k)] true r1):RS z.c aK.names 13 eF (HT b tx p ca due fs pts n v (Ai (rZ tx) [])) (fG aK.body 5) .next (HT b tx p ca due fs pts n v (Ai r1 [])):=by
 have o1:(V.dat (.int (2+Int.fmod (kR b.ns 0) (Int.ofNat tx.length+1))):V)=.dat (.int (Int.ofNat k)):=by rw[hk]
 have s:=So z (b:=b) (tx:=tx) (p:=p) (ca:=ca) (due:=due) (fs:=fs) (pts:=pts) (n:=n) (v:=v)
 generalize kR b.ns 0=S at *
 exact z.useS (hs:=[.exp 1249032044 (.dat (.int S)) (HT b tx p ca due fs pts n v (Ai (rZ tx) [])),.val 1249028062 (.dat (.int (Int.ofNat k))),.cal 141 3 [9,8,11,10,12] (.dat (.boo true)) (SL r1)])
  (g:=cg [(true,Nat.ble tx.length lim)]) (aA (hY (by lia)) aE) (an h (an o1 (an s trivial))) (by apply Ag (v:=v);kernel_rfl)
theorem Ir:lL aK.names (fG aK.body 6)=sU (Str.ofString "got") (Str.ofString "told") (Str.ofString "places"):=by kernel_rfl
noncomputable abbrev HG (b:Bas)(tx:Nm)(p:Int×Int)(ca:Option Nat)(due fs pts:List D)(n:D)(v:VS)(J:List O):List O:=
 [.fr ([(dI,.dat b.sD),(fN,.ref 2),(aX,.dat (.str tx)),(gS,.dat (fQ p)),(nQ,.dat (Oc ca)),(jZ,.ref 5),(gT,.ref 4),(tO,.ref 3)]++vN n (some v)++[(nR,.ref 7),(tP,.ref 15),(EO,.ref 14),(Jx,.ref 13)]),.cel none,.dls (bQ b.ns),.dls due,.dls fs,.dls pts]++J
theorem Sp:RS z.c aK.names 13 eF (HT b tx p ca due fs pts n v (Ai r1 [])) (fG aK.body 6) .next (HG b tx p ca due fs pts n v (Ai r1 [.lst [],.lst [],.lst [],.tup [.ref 13,.ref 14,.ref 15]])):=
 z.useS (hs:=[]) (g:=true) (ob:=_∧True) rfl ⟨Ir,trivial⟩ (by apply Ag (v:=v);kernel_rfl)
noncomputable def Ez (b:Bas)(tx:Nm)(p:Int×Int)(ca:Option Nat)(due fs pts:List D)(n:D)(v:VS):Fr:=⟨b.sD,.lst (bQ b.ns),tx,fQ p,Oc ca,.lst pts,.lst fs,.lst due,n,v.r,v.f,v.j⟩
noncomputable def LG (fr:List (Nm×V))(l2 l3 l4:O)(r:Stm):List O:=
 [.fr fr,.cel none,l2,l3,l4,
  .ns [(cP,.ref 8),(cQ,.dat .non),(bD,.dat (.boo false)),(aR,.dat (.lst [])),(dS,.mth 304 6),(cR,.dat (.boo false)),(aU,.dat .non)],.ins 762 5,
  strE r 8 10 11,.ins 166 7,.ns [(aX,.dat (.str r.text)),(dR,.dat (.int r.place))],.ins 73 9,.dls (qZ r.er)]
theorem It:Gc 2 (HG b tx p ca due fs pts n v (Ai r1 [.lst [],.lst [],.lst [],.tup [.ref 13,.ref 14,.ref 15]])) (LG ((Ez b tx p ca due fs pts n v).l v.k none) (.lst []) (.lst []) (.lst []) r1):=
 nP (fz:=[2,3,4,5]) (τ:=[13,14,15,6,7,8,9,10,11,12]) (v:=.dat .non) (by apply Ag (v:=v);kernel_rfl)
theorem Sq {s:Lw}{h0:List O}(h:RX z.c aK.names 13 eF h0 (aK.body.take 4) .next (LH b s (vN n (some v))))(l0:h0.length=2)(hl:s.tx.length≤80000)(hk:2+Int.fmod (kR b.ns 0) (Int.ofNat s.tx.length+1)=Int.ofNat k)(hr:CH z (rZ s.tx) [.dat (.int k)] true r1):
  RX z.c aK.names 13 eF h0 (aK.body.take 7) .next (LG ((Ez b s.tx s.p s.ca (rD s.row) (s.fs.map Tk.D.str) (s.pts.map fQ) n v).l v.k none) (.dls []) (.dls []) (.dls []) r1):=by
 have e:aK.body.take 4++[fG aK.body 4,fG aK.body 5,fG aK.body 6]=aK.body.take 7:=by kernel_rfl
 rw[← e]
 have q:=k6 h (cI (Sn z) (cI (Nn z hl hk hr) (cI (Sp z) u0)))
 have g:=EN q (l0.symm▸It)
 exact dH (dH (dH g (l:=2) (ds:=[]) rfl) (l:=3) (ds:=[]) rfl) (l:=4) (ds:=[]) rfl
variable {f:Fr}{kd:D}
noncomputable def a0 (kd:D):Acc:=⟨kd,none,none,[],[],[]⟩
theorem Vc:Gc 13 ((LG (f.l kd none) (.dls []) (.dls []) (.dls []) r1).set 5 (.ns [(cP,.ref 8),(cQ,.dat .non),(bD,.dat (.boo false)),(aR,.dat (.lst [])),(dS,.mth 304 6),(cR,.dat (.boo false)),(aU,.dat .non),(cJ,.ref 13)])++[.fr [(d5,.ref 6)],.lst []]) (AL f (a0 kd) r1 304 (kD (.dead .non)) [] (j0 (.dead .non))):=
 nP (fz:=[]) (τ:=Xo) (v:=.dat .non) (by apply Rg (f:=f);kernel_rfl)
end
end
section
structure PlainL (s:Lw):Prop where
 ok:∀ c∈s.tx,nA c
 two:2≤s.tx.length
 run:∃ k evs y,run k true 304 (.dead .non) (md false s.tx)=some (evs,y)∧cD [] (gA evs)=s.row∧(n9 evs).filter bY=s.fs∧(n9 evs).length=s.fs.length∧evs.length≤30000∧cT (gA evs)≤30000∧
  ∀ ps,PlR (md false s.tx) ps (lX evs)→match s.ca with
   |none=>ps=s.pts.map fQ∧y=true∧s.p=dJ (1,0) (md false s.tx)
   |some m=>ps.take m=(s.pts.map fQ).take m
theorem wT:∀ evs:List Evt,(gA evs).length≤evs.length∧(n9 evs).length≤evs.length∧(lX evs).length≤evs.length
 | []=>⟨Nat.le_refl _,Nat.le_refl _,Nat.le_refl _⟩
 |.err w::r=>have h:=wT r;⟨Nat.le_succ_of_le h.1,Nat.succ_le_succ h.2.1,Nat.le_succ_of_le h.2.2⟩
 |.ent i a::r=>have h:=wT r;⟨Nat.succ_le_succ h.1,Nat.le_succ_of_le h.2.1,by cases i <;>first|exact Nat.le_succ_of_le h.2.2|exact Nat.succ_le_succ h.2.2⟩
theorem Iu {T:Nm}{ps:List D}{os:List (Option Nm)}(h:PlR T ps os):ps.length=os.length:=by
 induction h with
 |nil=>rfl
 |cons _ _ ih=>exact congrArg (· +1) ih
theorem FA (a c:Int):∀ (s:Nm),dJ (a+1,c) s=((dJ (a,c) s).1+1,(dJ (a,c) s).2):=fun s=>by
 induction s generalizing a c with
 |nil=>rfl
 |cons x s ih=>
  show dJ (if x=10 then(a+1+1,0)else(a+1,c+1)) s=_
  by_cases h:x=10
  ·rw[if_pos h,ih];show _=((dJ (if x=10 then(a+1,0)else(a,c+1)) s).1+1,(dJ (if x=10 then(a+1,0)else(a,c+1)) s).2);rw[if_pos h]
  ·rw[if_neg h,ih];show _=((dJ (if x=10 then(a+1,0)else(a,c+1)) s).1+1,(dJ (if x=10 then(a+1,0)else(a,c+1)) s).2);rw[if_neg h]
section
variable {z:bS}{f:Fr}{kd:D}{r1:Stm}
theorem Sr (D:GenD z.K 268 gN gI.b)(R:RplOk z.K){T:Nm}{E k:Nat}{evs:List Evt}{y:Bool}(e:run k true 304 (.dead .non) T=some (evs,y))(at_:At' T true E r1 [] T)(h0:T=[]→r1.er=0)(L:Lim (a0 kd) evs E)(le:evs.length≤90000):
  ∃ hpE,EndR f T (a0 kd) evs E y hpE∧RS z.c aK.names 13 eF (LG (f.l kd none) (.dls []) (.dls []) (.dls []) r1) wM.s .next hpE:=by
 obtain⟨hpE,m,en,k,p⟩:=SI (f:=f) R _ (EZ _ _ _ _ _ _ e) E r1 (a0 kd) at_ h0 L le
 refine⟨hpE,en,?_⟩
 have h1:RE z.c aK.names 13 eF (LG (f.l kd none) (.dls []) (.dls []) (.dls []) r1) wM.i (.ref 6) (LG (f.l kd none) (.dls []) (.dls []) (.dls []) r1):=z.useE (hs:=[]) (g:=true) rfl trivial (by apply Rg (f:=f);kernel_rfl)
 have hs:RS z.c gN 8 ⟨12,[],false⟩ (LG (f.l kd none) (.dls []) (.dls []) (.dls []) r1++[.fr [(eK,.ref 6)]]) gI.s1 .next ((LG (f.l kd none) (.dls []) (.dls []) (.dls []) r1).set 5 (.ns [(cP,.ref 8),(cQ,.dat .non),(bD,.dat (.boo false)),(aR,.dat (.lst [])),(dS,.mth 304 6),(cR,.dat (.boo false)),(aU,.dat .non),(cJ,.ref 13)])++[.fr [(d5,.ref 6)],.lst []]):=z.useS (hs:=[]) (g:=true) rfl trivial (by kernel_rfl)
 exact Lb (c:=z.c) (X:=gI) (cl:=f9) D (fun env x=>bW (by kernel_rfl) env x) (by decide) h1 (I:=⟨762,_,_⟩) rfl rfl rfl hs (p _ Vc)
end
end
section
theorem Iv {z:bS}{n f:Nat}{F:Fn}{args:List V}{hp hp1 hp2:List O}{X:Fx}{v:V}(e:mX Hr f=some F)(h1:Nat.ble args.length F.params.length=true)(h2:Nat.ble F.params.length (args.length+F.dflt.length)=true)(en:rX F args hp=some (X,hp1))(b:RX z.c F.names n X hp1 F.body (.ret v) hp2):CallOk z.c (n+1) f args hp v hp2:=
 xA (c:=z.c) (n:=n) (z.tab f F (fK e)) h1 h2 en b rfl
section
variable {z:bS}
theorem Ss {tx:Nm}{k:Nat}(hc:∀ c∈tx,nA c)(h2:2≤tx.length)(hl:tx.length≤10240)(hk:2≤k):∃ r1,CH z (rZ tx) [.dat (.int k)] true r1∧At' (md false tx) true (bT tx) r1 [] (md false tx)∧md false tx≠[]:=by
 have hn:bT tx≤tx.length:=q0 tx
 have er:(rZ tx).rest=tx:=rfl
 have ok:(rZ tx).Ok:=⟨Nat.zero_le _,hl,hc,.inl rfl,Nat.le_refl _,Nat.zero_le _,by rw[er];show 0+_≤_;lia⟩
 have ne:tx≠[]:=fun q=>by rw[q]at h2;exact absurd h2 (by decide)
 obtain⟨r1,R⟩:=kY (z:=z) (as:=[.dat (.int k)]) (k:=k) ok (.inr rfl) (fun _=>rfl) hk (fun _=>h2) (by rw[er];exact ne)
 have eq:=R.eq
 rw[er]at eq
 refine⟨r1,R.call,⟨R.ok,?_,?_,.nil,fun _=>⟨[],?_,R.pos⟩,fun _ q=>absurd rfl q,by rw[R.er,er];exact Nat.zero_add _⟩,?_⟩
 ·rw[← cB]
  have:=q5 (d:=tx) (by lia)
  have m:(aY tx).length≤tx.length:=by
   unfold aY
   exact Nat.le_trans (eT (by simp) (by simp) _ _ (Nat.le_refl _)) (eT (by simp) (by simp) _ _ (Nat.le_refl _))
  lia
 ·rw[R.off,← cB tx];exact eq.symm
 ·rw[R.off];rfl
 ·rw[← cB];exact nJ ne
theorem Su (G:GenD z.K 268 gN gI.b)(R:RplOk z.K){s:Lw}{j:Nat}(sm:Sm j s)(j6:j≤6)(P:PlainL s){b:Bas}{n:D}{v:VS}{h0:List O}(l0:h0.length=2)
  (h:RX z.c aK.names 13 eF h0 (aK.body.take 4) .next (LH b s (vN n (some v)))):∃ hp',RX z.c aK.names 13 eF h0 aK.body (.ret (.dat (.boo true))) hp':=by
 have htx:=sm.tx
 have hfs:=sm.fs
 have hpt:=sm.pts
 obtain⟨i,hi,_⟩:=cF (kR b.ns 0) (s.tx.length+1) (by lia)
 obtain⟨r1,hr,at_,ne⟩:=Ss (z:=z) (k:=2+i) P.ok P.two (by lia) (by lia)
 have hk:2+Int.fmod (kR b.ns 0) (Int.ofNat s.tx.length+1)=Int.ofNat (2+i):=by
  have e:Int.ofNat s.tx.length+1=Int.ofNat (s.tx.length+1):=rfl
  rw[e,hi]
  show(2:Int)+(i:Int)=((2+i:Nat):Int)
  lia
 have a:=Sq z h l0 (by lia) hk hr
 obtain⟨k,evs,y,e1,e2,e3,e4,e5,e6,e7⟩:=P.run
 have el:=wT evs
 have hnb:=q0 s.tx
 obtain⟨hpE,en,w⟩:=Sr (f:=Ez b s.tx s.p s.ca (rD s.row) (s.fs.map Tk.D.str) (s.pts.map fQ) n v) (kd:=v.k) G R e1 at_ (fun q=>absurd q ne) ⟨⟨by show 0+_≤_;lia,by show 0+_≤_;lia⟩,by show 0+_+_≤_;lia,by show 0+_≤_;lia⟩ (by lia)
 have eb:aK.body.take 7++(wM.s::((aK.body.drop 8).take 2++aK.body.drop 10))=aK.body:=by kernel_rfl
 cases en with
 |mk a' r' st ct hA at2=>
  obtain⟨ps,hps,plr⟩:=hA.pl
  have hps:a'.pl=ps:=hps
  have hrow:a'.row=s.row:=hA.row.trans e2
  have hlen:a'.told.length=s.fs.length+bT s.tx:=by have:=hA.told.len;rw[this];show 0+_+_=_;lia
  have hflt:a'.told.filter bY=s.fs:=by have:=hA.told.flt;rw[this];exact e3
  have hpl:ps.length≤30000:=by rw[Iu plr];lia
  have q7:=e7 ps plr
  have he:RX z.c aK.names 13 eF (AL (Ez b s.tx s.p s.ca (rD s.row) (s.fs.map Tk.D.str) (s.pts.map fQ) n v) a' r' st (kD ct) [] (j0 ct)) ((aK.body.drop 8).take 2) .next _:=
   VN (z:=z) (f:=Ez b s.tx s.p s.ca (rD s.row) (s.fs.map Tk.D.str) (s.pts.map fQ) n v) (k:=a'.k) (ro:=a'.ro) (cv:=a'.cv.map V.dat) (pl:=a'.pl) (ws:=a'.told) (r:=r') (st:=st) (c:=kD ct) (Q:=[]) (o:=j0 ct) (row:=a'.row) (fs:=s.fs) (by rw[hrow];rfl) rfl hflt (by lia) (by show s.tx.length≤_;lia) P.ok hlen (by lia)
  obtain⟨r2,hch,_⟩:=fM (z:=z) at2
  rw[hps]at he
  rw[← eb]
  cases hca:s.ca with
  |none=>
   rw[hca]at q7
   obtain⟨q1,q2,q3⟩:=q7
   subst q2
   obtain⟨p,t1,t2⟩:=at2.pos
   have hsp:fQ s.p=dY r':=by
    unfold dY
    rw[List.append_nil]at t1
    rw[q3,t2,show dJ (1,0) (md false s.tx)=_ from FA 0 0 _,t1];rfl
   exact⟨_,k6 a (cI w (k6 he (SO (by show Oc s.ca=_;rw[hca];rfl) (by rw[q1];rfl) hsp (by rw[q1];exact t8 _) (nB z at2.ok.off) hch (by lia))))⟩
  |some m=>
   rw[hca]at q7
   exact⟨_,k6 a (cI w (k6 he (NP (m:=m) (ss:=s.pts.map fQ) (by show Oc s.ca=_;rw[hca];rfl) rfl q7 (by rw[← List.map_take];exact t8 _) hch (by lia) (by rw[List.length_map];lia))))⟩
theorem rS:∀ (cs:List Pc) (j:Nat) (s:Lw),Sm j s→(∀ c∈cs,c.ok)→Sm (j+cs.length) (cs.foldl Lw.step s)
 | [],_,_,h,_=>h
 |c::cs,j,s,h,ok=>by
  have:=rS cs (j+1) (s.step c) (h.step (ok c (.head _))) fun x m=>ok x (.tail _ m)
  rw[Nat.add_assoc,Nat.add_comm 1]at this
  exact this
theorem Sv (G:GenD z.K 268 gN gI.b)(R:RplOk z.K)(PW:∀ cs:List Pc,cs≠[]→cs.length≤6→(∀ c∈cs,c.ok)→PlainL (cs.foldl Lw.step s0)){ns:List Int}(hn:ns.length≤1000):CallOk z.c 14 827 [.dat (.lst (bQ ns))] [] (.dat (.boo true)) []:=by
 obtain⟨ms,cs,n,v,ne,le,ok,h⟩:=Sl z hn
 have sm:=rS cs 0 s0 Ey ok
 obtain⟨hp',q⟩:=Su G R sm (by lia) (PW cs ne le ok) rfl h
 have h3:CallOk z.c 14 827 [.dat (.lst (bQ ns))] [] (.dat (.boo true)) hp':=Iv (F:=aK) (by kernel_rfl) (by kernel_rfl) (by kernel_rfl) (by kernel_rfl) q
 exact kJ h3 (fz:=[]) (τ:=[]) rfl
end
end
section
theorem iQ (b:List Item):∀ (a row:List Item),cD row (a++b)=cD (cD row a) b
 | [],_=>rfl
 |_::a,_=>iQ b a _
theorem kA (row:List Item)(s t:Nm):cS (cS row (.text s)) (.text t)=cS row (.text (s++t)):=match row,hW row with
 |_,.none=>rfl
 |_,.some a l=>by
  rw[cL,cL]
  cases l with
  |text u=>exact(cL _ _ a).trans (congrArg (fun w=>a++[.text w]) (List.append_assoc u s t))
  |_=>exact(congrArg (fun w=>cS w (.text t)) (List.append_assoc a [_] [_]).symm).trans ((cL _ _ _).trans (List.append_assoc a _ _))
noncomputable def Eqv (a b:List Item):Prop:=∀ row,cD row a=cD row b
theorem Eqv.app {a b c d:List Item}(h:Eqv a b)(h2:Eqv c d):Eqv (a++c) (b++d):=fun row=>by rw[iQ,iQ,h,h2]
noncomputable def stp (st:Nat)(ct:CT)(l:Nm):Option Res:=bd (sp st ct l) fun z=>match ct.smallB&&(z.more&&((Mz ct z.ct).isSome&&z.out.all gW))with
 |true=>some z
 |false=>none
theorem Iw {st:Nat}{ct:CT}{l:Nm}{z:Res}(h:stp st ct l=some z):ct.smallB=true∧sp st ct l=some z∧z.more=true∧((Mz ct z.ct).isSome&&z.out.all gW)=true:=by
 obtain⟨y,e,h⟩:=dP h
 cases q:ct.smallB&&(y.more&&((Mz ct y.ct).isSome&&y.out.all gW))with
 |true=>rw[q]at h;cases h;have q:=Bool.and_eq_true_iff.mp q;have w:=Bool.and_eq_true_iff.mp q.2;exact⟨q.1,e,w.1,w.2⟩
 |false=>rw[q]at h;cases h
theorem FB {k st:Nat}{x:Bool}{ct:CT}{l:Nm}{z:Res}(h:stp st ct l=some z):run (k+1) x st ct l=match run k (x&&z.ex) z.st z.ct z.rest with|none=>none|some b=>some (z.out.map (nS (x&&z.ex) z.rest)++b.1,b.2):=by
 obtain⟨s,e,m,t⟩:=Iw h
 conv=>lhs;unfold run
 rw[s,e]
 dsimp only
 rw[t,m]
 try rfl
theorem nZ {k st:Nat}{x:Bool}{ct:CT}{l:Nm}{z:Res}{b:List Evt×Bool}(h:stp st ct l=some z)(r:run k (x&&z.ex) z.st z.ct z.rest=some b):run (k+1) x st ct l=some (z.out.map (nS (x&&z.ex) z.rest)++b.1,b.2):=by rw[FB h,r]
theorem rT {k st:Nat}{x:Bool}{ct:CT}{l:Nm}{z:Res}{a:List Evt×Bool}(h:stp st ct l=some z)(r:run k x st ct l=some a):∃ k' b,k=k'+1∧run k' (x&&z.ex) z.st z.ct z.rest=some b∧a=(z.out.map (nS (x&&z.ex) z.rest)++b.1,b.2):=by
 cases k with
 |zero=>cases r
 |succ k=>
  rw[FB h]at r
  cases q:run k (x&&z.ex) z.st z.ct z.rest with
  |some b=>rw[q]at r;cases r;exact⟨k,b,rfl,q,rfl⟩
  |none=>rw[q]at r;cases r
structure Fd where
 st:Nat
 ct:CT
 e:Bool
 rest:Nm
 out:List (Tok×Bool×Nm)
noncomputable def k8:Nat→Nat→CT→Bool→Nm→Option Fd
 |0,st,ct,e,l=>some ⟨st,ct,e,l,[]⟩
 |n+1,st,ct,e,l=>bd (stp st ct l) fun z=>bd (k8 n z.st z.ct (e&&z.ex) z.rest) fun f=>some ⟨f.st,f.ct,f.e,f.rest,z.out.map (fun t=>(t,e&&z.ex,z.rest))++f.out⟩
noncomputable def FC (x:Bool)(t:Tok×Bool×Nm):Evt:=nS (x&&t.2.1) t.2.2 t.1
theorem zB {k st':Nat}{x e':Bool}{ct':CT}{l':Nm}{b:List Evt×Bool}(hb:run k (x&&e') st' ct' l'=some b):∀ {n st:Nat} {ct:CT} {e:Bool} {l:Nm} {o:List (Tok×Bool×Nm)},k8 n st ct e l=some ⟨st',ct',e',l',o⟩→run (k+n) (x&&e) st ct l=some (o.map (FC x)++b.1,b.2)
 |0,_,_,_,_,_,h=>by cases h;exact hb
 |n+1,st,ct,e,l,o,h=>by
  obtain⟨z,ez,h⟩:=dP h
  obtain⟨⟨s1,c1,e1,r1,o1⟩,q,h⟩:=dP h
  cases h
  have r:=zB hb q
  rw[← Bool.and_assoc]at r
  have w:=nZ ez r
  rw[show k+(n+1)=(k+n)+1 from rfl,w,List.map_append,List.append_assoc,List.map_map]
  congr 3
  exact List.map_congr_left fun t _=>by unfold FC;rw[Bool.and_assoc];rfl
theorem eQ {m st1:Nat}{ct1:CT}{e1:Bool}{l1:Nm}{f:Fd}(h2:k8 m st1 ct1 e1 l1=some f):∀ {n st:Nat} {ct:CT} {e:Bool} {l:Nm} {o:List (Tok×Bool×Nm)},k8 n st ct e l=some ⟨st1,ct1,e1,l1,o⟩→k8 (n+m) st ct e l=some ⟨f.st,f.ct,f.e,f.rest,o++f.out⟩
 |0,_,_,_,_,_,h=>by cases h;rw[Nat.zero_add];exact h2
 |n+1,st,ct,e,l,o,h=>by
  obtain⟨z,ez,h⟩:=dP h
  obtain⟨⟨s1,c1,e1,r1,o1⟩,q,h⟩:=dP h
  cases h
  have r:=eQ h2 q
  rw[show n+1+m=(n+m)+1 by lia]
  show bd (stp st ct l) _=_
  rw[ez]
  show bd (k8 (n+m) z.st z.ct (e&&z.ex) z.rest) _=_
  rw[r]
  show some _=some _
  rw[List.append_assoc]
noncomputable def zC (l:List Evt):Nat:=l.length+cT (gA l)
theorem eD:∀ a b:List Evt,gA (a++b)=gA a++gA b
 | [],_=>rfl
 |.err _::r,b=>eD r b
 |.ent i _::r,b=>congrArg (i::·) (eD r b)
theorem eZ:∀ a b:List Evt,n9 (a++b)=n9 a++n9 b
 | [],_=>rfl
 |.err w::r,b=>congrArg (w::·) (eZ r b)
 |.ent _ _::r,b=>eZ r b
theorem e8:∀ a b:List Evt,lX (a++b)=lX a++lX b
 | [],_=>rfl
 |.err _::r,b=>e8 r b
 |.ent i a::r,b=>by
  have h:=e8 r b
  cases i <;>first|exact h|exact congrArg (a::·) h
theorem zD (a b:List Evt):zC (a++b)=zC a+zC b:=by unfold zC;rw[List.length_append,eD,fP];lia
structure RqAt (d:D) (x:Bool) (rest:Nm) (L:List Evt) (y:Bool) (k:Nat) (evs:List Evt):Prop where
 run:run k x 304 (.dead d) rest=some (evs,y)
 eqv:Eqv (gA evs) (gA L)
 er:n9 evs=n9 L
 pl:lX evs=lX L
 sz:zC evs≤4*rest.length+4
noncomputable def Rq (x:Bool)(rest:Nm)(L:List Evt)(y:Bool):Prop:=∀ d,∃ k evs,RqAt d x rest L y k evs
theorem Rq.nil (x:Bool):Rq x [] [] x:=fun d=>⟨1,[],by cases x <;>rfl,fun _=>rfl,rfl,rfl,Nat.zero_le _⟩
theorem Rq.mark {x e y:Bool}{m rest:Nm}{L:List Evt}{out:List (Tok×Bool×Nm)}(h:Rq (x&&e) rest L y)(f:∀ d,∃ n D,k8 n 304 (.dead d) true (m++rest)=some ⟨304,.dead D,e,rest,out⟩)(b:zC (out.map (FC x))≤4*m.length):Rq x (m++rest) (out.map (FC x)++L) y:=fun d=>(by rcases f d with⟨n,D,e⟩;exact(by rcases h D with⟨k,i,r⟩;exact⟨k+n,out.map (FC x)++i,by have q:=zB r.run e;rw[Bool.and_true]at q;exact q,by rw[eD,eD];exact .app (fun _=>rfl) r.eqv,by rw[eZ,eZ,r.er],by rw[e8,e8,r.pl],by have:=r.sz;rw[zD,List.length_append];lia⟩))
end
section
noncomputable abbrev tE (s:Nm):Evt:=.ent (.text s) none
theorem Rq.eqv {x y:Bool}{rest:Nm}{L L':List Evt}(h:Rq x rest L y)(e:Eqv (gA L) (gA L'))(n:n9 L=n9 L')(p:lX L=lX L'):Rq x rest L' y:=fun d=>match h d with
 |⟨k,i,r⟩=>⟨k,i,r.run,fun row=>(r.eqv row).trans (e row),r.er.trans n,r.pl.trans p,r.sz⟩
noncomputable abbrev pS:Nat→Bool:=cW bI true
noncomputable abbrev pP:Nat→Bool:=cW (iV 38 60 0) false
theorem No {c:Nat}(h:bI c=true):c=9∨c=10∨c=12∨c=32∨c=13:=by
 have e:(nb [9] [c]||(nb [10] [c]||(nb [12] [c]||(nb [32] [c]||(nb [13] [c]||false)))))=true:=h
 simp only[Bool.or_eq_true,Bool.or_false]at e
 rcases e with e|e|e|e|e <;>cases aP e <;>simp
theorem KN (c:Nat):pS c=bI c:=by
 unfold pS cW
 cases bI c <;>rfl
theorem FD {c:Nat}(h:pS c=true):pP c=true:=by
 rw[KN]at h
 rcases No h with rfl|rfl|rfl|rfl|rfl <;>decide+kernel
theorem FE {c a:Nat}(h:pP c=true)(e:pP a=false):nb [c] [a]=false:=by
 cases q:nb [c] [a]with
 |false=>rfl
 |true=>cases aP q;rw[e]at h;cases h
theorem wU {d:D}{c:Nat}{l:Nm}(h:pP c=true):stp 304 (.dead d) (c::l)=some (bif bI c then⟨true,304,.dead d,[.chr2 ([c]++l.takeWhile pS)],l.dropWhile pS,true⟩else⟨true,304,.dead d,[.chr1 ([c]++l.takeWhile pP)],l.dropWhile pP,true⟩):=by
 have e:sp 304 (.dead d) (c::l)=bif nb [c] [38]then some ⟨true,311,.dead d,[],l,true⟩else bif nb [c] [60]then some ⟨true,353,.dead d,[],l,true⟩else bif nb [c] [0]then none else bif bI c then some ⟨true,304,.dead d,[.chr2 ([c]++(l.takeWhile pS))],(l.dropWhile pS),true⟩else some ⟨true,304,.dead d,[.chr1 ([c]++(l.takeWhile pP))],(l.dropWhile pP),true⟩:=by kernel_rfl
 rw[FE h (by decide+kernel),FE h (by decide+kernel),FE h (by decide+kernel)]at e
 unfold stp
 rw[e]
 cases bI c <;>rfl
structure StrpAt (d:D) (x y:Bool) (p:Nat→Bool) (l:Nm) (evs:List Evt) (k:Nat) (i:List Evt):Prop where
 run:run k x 304 (.dead d) (l.dropWhile p)=some (i,y)
 eqv:∀ row s,cD (cS row (.text s)) (gA evs)=cD (cS row (.text (s++l.takeWhile p))) (gA i)
 er:n9 evs=n9 i
 pl:lX evs=lX i
 sz:zC i+(l.takeWhile p).length≤zC evs
noncomputable def FF (d:D)(x y:Bool)(p:Nat→Bool)(l:Nm)(evs:List Evt):Prop:=∃ k i,StrpAt d x y p l evs k i
section
variable {d:D}{x y:Bool}{p:Nat→Bool}
theorem mA {l:Nm}{evs:List Evt}{k:Nat}(h:run k x 304 (.dead d) l=some (evs,y))(e:l.takeWhile p=[])(e2:l.dropWhile p=l):FF d x y p l evs:=⟨k,evs,e2.symm▸h,fun row s=>by rw[e,List.append_nil],rfl,rfl,by rw[e];exact Nat.le_refl _⟩
theorem pX {c:Nat}{l:Nm}{i:List Evt}{k:Nat}(hc:p c=true)(h:run k x 304 (.dead d) (l.dropWhile p)=some (i,y)):FF d x y p (c::l) (tE ([c]++l.takeWhile p)::i):=by
 refine⟨k,i,by rw[List.dropWhile_cons_of_pos hc];exact h,fun row s=>?_,rfl,rfl,?_⟩
 ·rw[List.takeWhile_cons_of_pos hc]
  exact congrArg (fun w=>cD w (gA i)) (kA row s _)
 ·rw[List.takeWhile_cons_of_pos hc]
  show i.length+cT (gA i)+(l.takeWhile p).length.succ≤(i.length+1)+(([c]++l.takeWhile p).length+cT (gA i))
  rw[List.length_append]
  show _≤(i.length+1)+(1+(l.takeWhile p).length+cT (gA i))
  lia
theorem Ix {l:Nm}{evs:List Evt}{k:Nat}(h:run k x 304 (.dead d) l=some (evs,y)):FF d x y pS l evs:=by
 cases l with
 |nil=>exact mA h rfl rfl
 |cons c l=>
  cases q:pS c with
  |false=>exact mA h (List.takeWhile_cons_of_neg (by rw[q];decide)) (List.dropWhile_cons_of_neg (by rw[q];decide))
  |true=>
   have e:=wU (d:=d) (l:=l) (FD q)
   rw[(KN c).symm.trans q]at e
   obtain⟨k',b,rfl,r,w⟩:=rT e h
   obtain⟨b,yb⟩:=b
   cases w
   have r:run k' (x&&true) 304 (.dead d) (l.dropWhile pS)=some (b,yb):=r
   rw[Bool.and_true]at r
   exact pX q r
theorem FG:∀ l:Nm,(l.dropWhile pS).dropWhile pP=l.dropWhile pP∧l.takeWhile pS++(l.dropWhile pS).takeWhile pP=l.takeWhile pP
 | []=>⟨rfl,rfl⟩
 |c::l=>by
  cases q:pS c with
  |false=>rw[List.dropWhile_cons_of_neg (by rw[q];decide),List.takeWhile_cons_of_neg (by rw[q];decide)];exact⟨rfl,rfl⟩
  |true=>
   rw[List.dropWhile_cons_of_pos q,List.takeWhile_cons_of_pos q,List.dropWhile_cons_of_pos (FD q),List.takeWhile_cons_of_pos (FD q)]
   exact⟨(FG l).1,congrArg (c::·) (FG l).2⟩
theorem zE:∀ {k:Nat} {l:Nm} {evs:List Evt},run k x 304 (.dead d) l=some (evs,y)→FF d x y pP l evs
 |_,[],_,h=>mA h rfl rfl
 |k,c::l,evs,h=>by
  cases q:pP c with
  |false=>exact mA h (List.takeWhile_cons_of_neg (by rw[q];decide)) (List.dropWhile_cons_of_neg (by rw[q];decide))
  |true=>
   have e:=wU (d:=d) (l:=l) q
   cases w:bI c with
   |false=>
    rw[w]at e
    obtain⟨k',b,rfl,r,w⟩:=rT e h
    have w1:=congrArg Prod.fst w
    have w2:y=b.2:=congrArg Prod.snd w
    dsimp only at w1
    subst w1
    have r:run k' (x&&true) 304 (.dead d) (l.dropWhile pP)=some (b.1,y):=by rw[w2];exact r
    rw[Bool.and_true]at r
    exact pX q r
   |true=>
    rw[w]at e
    obtain⟨k',b,rfl,r,w⟩:=rT e h
    have w1:=congrArg Prod.fst w
    have w2:y=b.2:=congrArg Prod.snd w
    dsimp only at w1
    subst w1
    have r:run k' (x&&true) 304 (.dead d) (l.dropWhile pS)=some (b.1,y):=by rw[w2];exact r
    rw[Bool.and_true]at r
    generalize b.1=b at *
    obtain⟨k2,i,t⟩:=zE r
    have hd:=FG l
    refine⟨k2,i,?_,fun row s=>?_,t.er,t.pl,?_⟩
    ·rw[List.dropWhile_cons_of_pos q,← hd.1];exact t.run
    ·rw[List.takeWhile_cons_of_pos q,← hd.2]
     refine(congrArg (fun w=>cD w (gA b)) (kA row s ([c]++l.takeWhile pS))).trans ((t.eqv row _).trans ?_)
     rw[List.append_assoc,List.append_assoc];rfl
    ·have z:=t.sz
     rw[List.takeWhile_cons_of_pos q,← hd.2]
     show zC i+(l.takeWhile pS++(l.dropWhile pS).takeWhile pP).length.succ≤(b.length+1)+(([c]++l.takeWhile pS).length+cT (gA b))
     rw[List.length_append,List.length_append]
     replace z:zC i+((l.dropWhile pS).takeWhile pP).length≤b.length+cT (gA b):=z
     show _≤(b.length+1)+(1+(l.takeWhile pS).length+cT (gA b))
     lia
theorem Rq.plain {c:Nat}{rest:Nm}{L:List Evt}(h:Rq x rest L y)(hc:pP c=true):Rq x (c::rest) (tE [c]::L) y:=fun d=>match h d with
 |⟨k,evs,r⟩=>by
  have e:=wU (d:=d) (l:=rest) hc
  have fin:∀ p,FF d x y p rest evs→stp 304 (.dead d) (c::rest)=some ⟨true,304,.dead d,[.chr1 ([c]++rest.takeWhile p)],rest.dropWhile p,true⟩∨stp 304 (.dead d) (c::rest)=some ⟨true,304,.dead d,[.chr2 ([c]++rest.takeWhile p)],rest.dropWhile p,true⟩→∃ k i,RqAt d x (c::rest) (tE [c]::L) y k i:=fun p t e=>match t with
   |⟨k2,i,t⟩=>by
    have rn:run k2 (x&&true) 304 (.dead d) (rest.dropWhile p)=some (i,y):=by rw[Bool.and_true];exact t.run
    refine⟨k2+1,tE ([c]++rest.takeWhile p)::i,e.elim (fun e=>nZ e rn) (fun e=>nZ e rn),fun row=>((t.eqv row [c]).symm.trans (r.eqv _):cD (cS row _) (gA i)=cD (cS row _) (gA L)),t.er.symm.trans r.er,t.pl.symm.trans r.pl,?_⟩
    have z:=t.sz
    have y:=r.sz
    show(i.length+1)+((rest.takeWhile p).length.succ+cT (gA i))≤4*rest.length.succ+4
    replace z:i.length+cT (gA i)+(rest.takeWhile p).length≤_:=z
    lia
  cases w:bI c with
  |false=>rw[w]at e;exact fin _ (zE r.run) (.inl e)
  |true=>rw[w]at e;exact fin _ (Ix r.run) (.inr e)
theorem Rq.chars {rest:Nm}{L:List Evt}(h:Rq x rest L y):∀ {s:Nm},s.all pP=true→Rq x (s++rest) (s.map (fun c=>tE [c])++L) y
 | [],_=>h
 |c::s,hs=>by
  have hs:=Bool.and_eq_true_iff.mp hs
  exact(h.chars hs.2).plain hs.1
theorem k9:∀ (s:Nm) (a:Nat),Eqv (gA ((a::s).map fun c=>tE [c])) [.text (a::s)]
 | [],_=>fun _=>rfl
 |b::s,a=>fun row=>by
  have h:=k9 s b
  show cD (cS row (.text [a])) (gA ((b::s).map fun c=>tE [c]))=cS row (.text ([a]++(b::s)))
  rw[h,← kA];rfl
theorem gX:∀ s:Nm,n9 (s.map fun c=>tE [c])=[]∧lX (s.map fun c=>tE [c])=[]
 | []=>⟨rfl,rfl⟩
 |_::s=>gX s
theorem Rq.text {rest:Nm}{L:List Evt}(h:Rq x rest L y){a:Nat}{s:Nm}(hs:(a::s).all pP=true):Rq x ((a::s)++rest) (tE (a::s)::L) y:=by
 refine(h.chars hs).eqv ?_ ?_ ?_
 ·rw[eD]
  exact .app (b:=[.text (a::s)]) (k9 s a) fun _=>rfl
 ·rw[eZ,(gX (a::s)).1];rfl
 ·rw[e8,(gX (a::s)).2];rfl
end
end
section
noncomputable def gY (s:Nat):Bool:=Nat.beq s 304
noncomputable def dZ (p:Nat→Bool):Nat→Nat→CT→Bool→Nm→Option Fd
 |0,_,_,_,_=>none
 |k+1,st,ct,e,l=>bd (stp st ct l) fun z=>match p z.st with
  |true=>some ⟨z.st,z.ct,e&&z.ex,z.rest,z.out.map (fun t=>(t,e&&z.ex,z.rest))⟩
  |false=>bd (dZ p k z.st z.ct (e&&z.ex) z.rest) fun f=>some ⟨f.st,f.ct,f.e,f.rest,z.out.map (fun t=>(t,e&&z.ex,z.rest))++f.out⟩
theorem bZ {p:Nat→Bool}:∀ {k st:Nat} {ct:CT} {e:Bool} {l:Nm} {f:Fd},dZ p k st ct e l=some f→∃ n,k8 n st ct e l=some f
 |0,_,_,_,_,_,h=>by cases h
 |k+1,st,ct,e,l,f,h=>by
  obtain⟨z,ez,h⟩:=dP h
  cases q:p z.st with
  |true=>
   rw[q]at h
   cases h
   refine⟨1,?_⟩
   show bd (stp st ct l) _=_
   rw[ez]
   show some (Fd.mk _ _ _ _ (_++[]))=_
   rw[List.append_nil]
  |false=>
   rw[q]at h
   obtain⟨g,eg,h⟩:=dP h
   obtain⟨n,hn⟩:=bZ eg
   cases h
   refine⟨n+1,?_⟩
   show bd (stp st ct l) _=_
   rw[ez]
   show bd (k8 n z.st z.ct (e&&z.ex) z.rest) _=_
   rw[hn]
   rfl
noncomputable def Vd (h x:Bool)(rest:Nm):Option Nm:=bif h then none else bif x then some rest else none
structure Brings (c:Pc) (x:Bool) (rest:Nm) (O:List Evt):Prop where
 it:Eqv (gA O) [c.it]
 er:n9 O=c.fo.toList
 pl:lX O=bif c.isT then []else [Vd c.isH x rest]
noncomputable def PQ (c:Pc):Prop:=∀ (x y:Bool) (rest:Nm) (L:List Evt),Rq (x&& !c.isH) rest L y→∃ O,Rq x (md false c.w++rest) (O++L) y∧Brings c x rest O
theorem kB {c:Pc}(e:Bool)(he:e= !c.isH){out:Nm→List (Tok×Bool×Nm)}(f:∀ d rest,∃ n D,k8 n 304 (.dead d) true (md false c.w++rest)=some ⟨304,.dead D,e,rest,out rest⟩)(b:∀ x rest,Nat.ble (zC ((out rest).map (FC x))) (4 * (md false c.w).length)=true)(h:∀ x rest,Brings c x rest ((out rest).map (FC x))):PQ c:=fun x y rest L r=>
 ⟨(out rest).map (FC x),Rq.mark (e:=e) (he▸r) (fun d=>f d rest) (Nat.le_of_ble_eq_true (b x rest)),h x rest⟩
theorem Ve (i:Nat)(h:i<3)(d:D)(rest:Nm):dZ gY 60 304 (.dead d) true (md false (Pc.en i).w++rest)=some ⟨304,.dead (Tok.etag (iB i).2).toD,true,rest,[(.etag (iB i).2,true,rest)]⟩:=by apply allR (n:=3) (i:=i) (d:=d) (x:=rest) (lt:=h);kernel_rfl
theorem Sw {i:Nat}(h:i<3):PQ (.en i):=kB true rfl (fun d rest=>(by rcases bZ (Ve i h d rest)with⟨n,e⟩;exact⟨n,_,e⟩)) (fun x rest=>Nat.ble_eq_true_of_le (by
  have:1≤(md false (Pc.en i).w).length:=(by decide+kernel:∀ i<3,1≤(md false (Pc.en i).w).length) i h
  show 1+0≤_;lia)) fun x rest=>⟨fun _=>rfl,rfl,by cases x <;>rfl⟩
theorem Vf (i:Nat)(h:i<4)(d:D)(rest:Nm):dZ gY 60 304 (.dead d) true (md false (Pc.no i).w++rest)=some ⟨304,.dead (Tok.com (Od i).2).toD,true,rest,[(.com (Od i).2,true,rest)]⟩:=by apply allR (n:=4) (i:=i) (d:=d) (x:=rest) (lt:=h);kernel_rfl
theorem Sx {i:Nat}(h:i<4):PQ (.no i):=kB true rfl (fun d rest=>(by rcases bZ (Vf i h d rest)with⟨n,e⟩;exact⟨n,_,e⟩)) (fun x rest=>Nat.ble_eq_true_of_le (by
  have:1≤(md false (Pc.no i).w).length:=(by decide+kernel:∀ i<4,1≤(md false (Pc.no i).w).length) i h
  show 1+0≤_;lia)) fun x rest=>⟨fun _=>rfl,rfl,by cases x <;>rfl⟩
end
section
theorem Vg (i:Nat)(h:i<7)(d:D)(rest:Nm):dZ gY 60 304 (.dead d) true (md false (Pc.ha i).w++rest)=some ⟨304,.dead d,false,rest,[(.err aV,false,(NZ i++[62])++rest),(.com (NZ i),false,rest)]⟩:=by apply allR (n:=7) (i:=i) (d:=d) (x:=rest) (lt:=h);kernel_rfl
theorem Sy {i:Nat}(h:i<7):PQ (.ha i):=kB false rfl (out:=fun rest=>[(.err aV,false,(NZ i++[62])++rest),(.com (NZ i),false,rest)]) (fun d rest=>(by rcases bZ (Vg i h d rest)with⟨n,e⟩;exact⟨n,_,e⟩)) (fun x rest=>Nat.ble_eq_true_of_le (by
  have:1≤(md false (Pc.ha i).w).length:=by
   have q:∀ i<7,1≤(md false (Pc.ha i).w).length:=by decide+kernel
   exact q i h
  show 2+0≤_;lia)) fun x rest=>⟨fun _=>rfl,rfl,by cases x <;>rfl⟩
noncomputable def Iy (i:Nat)(rest:Nm):List (Tok×Bool×Nm):=match i with
 |0=>[(.err XW,true,[63,112,32,113,62]++rest),(.com [63,112,32,113],true,rest)]
 |1=>[(.erv XY (.dct [(dF,.str [32])]),true,[32,120,62]++rest),(.com [32,120],true,rest)]
 |2=>[(.doc [104,116,109,108],true,rest)]
 |_=>[(.doc [120],true,rest)]
noncomputable def XS (i:Nat)(d:D):D:=match i with
 |0=>d
 |1=>d
 |2=>(Tok.doc [104,116,109,108]).toD
 |_=>(Tok.doc [120]).toD
theorem Vh (i:Nat)(h:i<4)(d:D)(rest:Nm):dZ gY 60 304 (.dead d) true (md false (Pc.ot i).w++rest)=some ⟨304,.dead (XS i d),true,rest,Iy i rest⟩:=by apply allR (n:=4) (i:=i) (d:=d) (x:=rest) (lt:=h);kernel_rfl
theorem TA {i:Nat}(h:i<4):PQ (.ot i):=kB true rfl (out:=Iy i) (fun d rest=>(by rcases bZ (Vh i h d rest)with⟨n,e⟩;exact⟨n,_,e⟩)) (fun x rest=>Rh (P:=fun i=>∀ x rest,Nat.ble (zC ((Iy i rest).map (FC x))) (4 * (md false (Pc.ot i).w).length)=true) (n:=4) ⟨⟨⟨⟨trivial,fun _ _=>by kernel_rfl⟩,fun _ _=>by kernel_rfl⟩,fun _ _=>by kernel_rfl⟩,fun _ _=>by kernel_rfl⟩ h x rest) fun x rest=>
  Rh (P:=fun i=>∀ x rest,Brings (.ot i) x rest ((Iy i rest).map (FC x))) (n:=4) ⟨⟨⟨⟨trivial,fun x _=>⟨fun _=>rfl,rfl,by cases x <;>rfl⟩⟩,fun x _=>⟨fun _=>rfl,rfl,by cases x <;>rfl⟩⟩,fun x _=>⟨fun _=>rfl,rfl,by cases x <;>rfl⟩⟩,fun x _=>⟨fun _=>rfl,rfl,by cases x <;>rfl⟩⟩ h x rest
theorem pY {i:Nat}{a:Nat}{s:Nm}(e:md false (Pc.tx i).w=a::s)(h:(a::s).all pP=true)(hm:(y9 i).2.1=a::s)(hf:(y9 i).2.2=none):PQ (.tx i):=fun x y rest L r=>
 ⟨[tE (a::s)],by rw[e];exact Rq.text (by rw[show(x&& !(Pc.tx i).isH)=x from Bool.and_true x]at r;exact r) h,⟨fun row=>by show cS row _=cS row (.text (y9 i).2.1);rw[hm],by show []=((y9 i).2.2).toList;rw[hf];rfl,rfl⟩⟩
theorem n6 {i:Nat}{m t u:Nm}{er:Option Nm}(e:md false (Pc.tx i).w=m++t)(h:t.all pP=true)(hm:(y9 i).2.1=u++t)(hf:(y9 i).2.2=er)
  (f:∀ d rest,dZ gY 60 304 (.dead d) true (m++(t++rest))=some ⟨304,.dead d,true,t++rest,(er.toList.map fun w=>((.err w,true,t++rest):Tok×Bool×Nm))++[(.chr1 u,true,t++rest)]⟩)(ne:m≠[])(hu:u.length≤2):PQ (.tx i):=fun x y rest L r=>by
 have r:Rq x rest L y:=by rw[show(x&& !(Pc.tx i).isH)=x from Bool.and_true x]at r;exact r
 have r1:=r.chars h
 have ml:1≤m.length:=Nat.pos_of_ne_zero fun q=>ne (List.length_eq_zero_iff.mp q)
 have e1:∀ rest,((er.toList.map fun w=>((.err w,true,rest):Tok×Bool×Nm))++[((.chr1 u,true,rest):Tok×Bool×Nm)]).map (FC x)=er.toList.map Evt.err++[tE u]:=fun rest=>by cases er <;>rfl
 have r2:=Rq.mark (x:=x) (e:=true) (m:=m) (rest:=t++rest) (out:=(er.toList.map fun w=>((.err w,true,t++rest):Tok×Bool×Nm))++[(.chr1 u,true,t++rest)]) (by rw[Bool.and_true];exact r1) (fun d=>(by rcases bZ (f d rest)with⟨n,e⟩;exact⟨n,_,e⟩)) (by
  rw[e1,zD]
  have:zC (er.toList.map Evt.err)≤1:=by cases er <;>exact Nat.le_of_ble_eq_true rfl
  show _+(1+(u.length+0))≤_
  lia)
 rw[e1,← List.append_assoc,← List.append_assoc,← e]at r2
 have er1:gA (er.toList.map Evt.err)=[]∧n9 (er.toList.map Evt.err)=er.toList∧lX (er.toList.map Evt.err)=[]:=by cases er <;>exact⟨rfl,rfl,rfl⟩
 refine⟨_,r2,⟨?_,?_,?_⟩⟩
 ·rw[eD,eD,er1.1]
  show Eqv (.text u::gA (t.map fun c=>tE [c])) [.text (y9 i).2.1]
  rw[hm]
  cases t with
  |nil=>rw[List.append_nil];exact fun _=>rfl
  |cons a s=>
   exact fun row=>by
    show cD (cS row (.text u)) (gA ((a::s).map fun c=>tE [c]))=cS row _
    rw[k9 s a,← kA];rfl
 ·rw[eZ,eZ,er1.2.1,(gX t).1]
  show er.toList++[]++[]=((y9 i).2.2).toList
  rw[hf,List.append_nil,List.append_nil]
 ·rw[e8,e8,er1.2.2,(gX t).2];rfl
theorem TB (i:Nat)(h:i<13):PQ (.tx i):=Rh (P:=fun i=>PQ (.tx i)) (n:=13) ⟨⟨⟨⟨⟨⟨⟨⟨⟨⟨⟨⟨⟨trivial,
 pY (a:=112) (s:=[108,97,105,110]) (by kernel_rfl) (by decide+kernel) (by kernel_rfl) (by kernel_rfl)⟩,
 pY (a:=108) (s:=[10,109]) (by kernel_rfl) (by decide+kernel) (by kernel_rfl) (by kernel_rfl)⟩,
 pY (a:=120) (s:=[10]) (by kernel_rfl) (by decide+kernel) (by kernel_rfl) (by kernel_rfl)⟩,
 pY (a:=32) (s:=[10]) (by kernel_rfl) (by decide+kernel) (by kernel_rfl) (by kernel_rfl)⟩,
 pY (a:=121) (s:=[10,233]) (by kernel_rfl) (by decide+kernel) (by kernel_rfl) (by kernel_rfl)⟩,
 pY (a:=1) (s:=[98]) (by kernel_rfl) (by decide+kernel) (by kernel_rfl) (by kernel_rfl)⟩,
 n6 (m:=[38,97,109,112,59]) (t:=[]) (u:=[38]) (er:=none) (by kernel_rfl) (by decide+kernel) (by kernel_rfl) (by kernel_rfl) (fun d rest=>by kernel_rfl) nofun (by decide)⟩,
 n6 (m:=[38,110,111,116,105,110,59]) (t:=[]) (u:=[8713]) (er:=none) (by kernel_rfl) (by decide+kernel) (by kernel_rfl) (by kernel_rfl) (fun d rest=>by kernel_rfl) nofun (by decide)⟩,
 n6 (m:=[38,35,120,52,49,59]) (t:=[]) (u:=[65]) (er:=none) (by kernel_rfl) (by decide+kernel) (by kernel_rfl) (by kernel_rfl) (fun d rest=>by kernel_rfl) nofun (by decide)⟩,
 n6 (m:=[38,110,111,116]) (t:=[33]) (u:=[172]) (er:=some XZ) (by kernel_rfl) (by decide+kernel) (by kernel_rfl) (by kernel_rfl) (fun d rest=>by kernel_rfl) nofun (by decide)⟩,
 n6 (m:=[60]) (t:=[32]) (u:=[60]) (er:=some Xe) (by kernel_rfl) (by decide+kernel) (by kernel_rfl) (by kernel_rfl) (fun d rest=>by kernel_rfl) nofun (by decide)⟩,
 n6 (m:=[38]) (t:=[120,59]) (u:=[38]) (er:=some Xc) (by kernel_rfl) (by decide+kernel) (by kernel_rfl) (by kernel_rfl) (fun d rest=>by kernel_rfl) nofun (by decide)⟩,
 n6 (m:=[60,62]) (t:=[]) (u:=[60,62]) (er:=some XX) (by kernel_rfl) (by decide+kernel) (by kernel_rfl) (by kernel_rfl) (fun d rest=>by kernel_rfl) nofun (by decide)⟩ h
end
section
noncomputable def Tt (s:Nat):Bool:=Nat.beq s 577||Nat.beq s 584
noncomputable def Of (d:Nat):Nat:=bif nb (q3 (nb (vD d).1 [118]) (d/5%3)) []then 577 else 584
noncomputable def wV (i:Nat)(as:List (Nm×Nm)):CT:=.tag true (iB i).1 as false
theorem wW (i:Nat)(hi:i<3)(d:D)(x:Nm):k8 ((iB i).1.length+1) 304 (.dead d) true ((60::(iB i).1)++x)=some ⟨367,wV i [],true,x,[]⟩:=by apply allR (n:=3) (i:=i) (d:=d) (x:=x) (lt:=hi);kernel_rfl
theorem Vi (x:Nm):nF 3 (fun i=>nF 30 fun d=>dZ Tt 60 367 (wV i []) true (md false (aW 0 d)++x))=nG 3 fun i=>nG 30 fun d=>some ⟨Of d,wV i [aM 0 d],true,x,[]⟩:=by kernel_rfl
noncomputable def jS (j:Nat):Nat:=bif Nat.beq j 5 then 577 else 584
noncomputable def jV (j:Nat):Nm:=bif Nat.beq j 5 then [118]else(vD j).2
noncomputable def jd (d:Nat):Nat:=bif Nat.beq (Of d) 577 then 5 else d%5
theorem FH:∀ d<30,Of d=jS (jd d)∧(vD d).2=jV (jd d)∧jd d<6:=by decide+kernel
theorem Vj (x:Nm):nF 3 (fun i=>nF 6 fun j=>nF 30 fun d=>dZ Tt 60 (jS j) (wV i [(eC 0,jV j)]) true (md false (aW 1 d)++x))=nG 3 fun i=>nG 6 fun j=>nG 30 fun d=>some ⟨Of d,wV i [(eC 0,jV j),aM 1 d],true,x,[]⟩:=by kernel_rfl
noncomputable def Np (i:Nat)(as:List (Nm×Nm))(b:Bool):Tok:=.stag (iB i).2 as b
noncomputable def Og (i:Nat)(as:List (Nm×Nm))(b:Bool)(x:Nm):Option Fd:=some ⟨304,.dead (Np i as b).toD,true,x,[(Np i as b,true,x)]⟩
theorem Vk (x:Nm):nF 3 (fun i=>bF fun b=>dZ gY 9 367 (wV i []) true (iX b++x))=nG 3 fun i=>bG fun b=>Og i [] b x:=by kernel_rfl
theorem Vl (x:Nm):nF 3 (fun i=>nF 6 fun j=>bF fun b=>dZ gY 9 (jS j) (wV i [(eC 0,jV j)]) true (iX b++x))=nG 3 fun i=>nG 6 fun j=>bG fun b=>Og i [(eC 0,jV j)] b x:=by kernel_rfl
theorem Vm (x:Nm):nF 3 (fun i=>nF 6 fun j=>nF 6 fun k=>bF fun b=>dZ gY 9 (jS k) (wV i [(eC 0,jV j),(eC 1,jV k)]) true (iX b++x))=nG 3 fun i=>nG 6 fun j=>nG 6 fun k=>bG fun b=>Og i [(eC 0,jV j),(eC 1,jV k)] b x:=by kernel_rfl
end
section
section
variable {x:Nm}{i:Nat}(hi:i<3)
include hi
theorem KO {d:Nat}(hd:d<30):dZ Tt 60 367 (wV i []) true (md false (aW 0 d)++x)=some ⟨Of d,wV i [aM 0 d],true,x,[]⟩:=lQ (lQ (Vi x) hi) hd
theorem TC {j d:Nat}(hj:j<6)(hd:d<30):dZ Tt 60 (jS j) (wV i [(eC 0,jV j)]) true (md false (aW 1 d)++x)=some ⟨Of d,wV i [(eC 0,jV j),aM 1 d],true,x,[]⟩:=lQ (lQ (lQ (Vj x) hi) hj) hd
theorem TD (b:Bool):dZ gY 9 367 (wV i []) true (iX b++x)=Og i [] b x:=Ac (lQ (Vk x) hi:) b
theorem TE {j:Nat}(hj:j<6)(b:Bool):dZ gY 9 (jS j) (wV i [(eC 0,jV j)]) true (iX b++x)=Og i [(eC 0,jV j)] b x:=Ac (lQ (lQ (Vl x) hi) hj:) b
theorem TF {j k:Nat}(hj:j<6)(hk:k<6)(b:Bool):dZ gY 9 (jS k) (wV i [(eC 0,jV j),(eC 1,jV k)]) true (iX b++x)=Og i [(eC 0,jV j),(eC 1,jV k)] b x:=Ac (lQ (lQ (lQ (Vm x) hi) hj) hk:) b
end
theorem Iz:∀ i<3,md false (60::(iB i).1)=60::(iB i).1∧DI false (60::(iB i).1)=false:=by decide+kernel
theorem FI:∀ d<30,DI false (aW 0 d)=false∧DI false (aW 1 d)=false:=by decide+kernel
theorem FJ (b:Bool):md false (iX b)=iX b:=by cases b <;>decide+kernel
theorem iR {a b:Nm}(h:DI false a=false):md false (a++b)=md false a++md false b:=by rw[fV,h]
theorem TG {i:Nat}{ds:List Nat}{b:Bool}(hi:i<3)(hd:Na ds):PQ (.st i ds b):=by
 have n1:=Iz i hi
 have f:∀ d rest,∃ n D,k8 n 304 (.dead d) true (md false (Pc.st i ds b).w++rest)=some ⟨304,.dead D,true,rest,[(Np i (wS ds) b,true,rest)]⟩:=fun d rest=>by
  show ∃ n D,k8 n 304 (.dead d) true (md false (((60::(iB i).1)++hZ ds)++iX b)++rest)=_
  match ds,hd with
  | [],_=>
   have e:md false (((60::(iB i).1)++hZ [])++iX b)++rest=(60::(iB i).1)++(iX b++rest):=by
    show md false (((60::(iB i).1)++[])++iX b)++rest=_
    rw[List.append_nil,iR n1.2,n1.1,FJ,List.append_assoc]
   rw[e]
   obtain⟨m,h⟩:=bZ (TD (x:=rest) hi b)
   exact⟨_,_,eQ h (wW i hi d _)⟩
  | [d0],h0=>
   have m0:=(FI d0 h0).1
   have e:md false (((60::(iB i).1)++hZ [d0])++iX b)++rest=(60::(iB i).1)++(md false (aW 0 d0)++(iX b++rest)):=by
    show md false (((60::(iB i).1)++aW 0 d0)++iX b)++rest=_
    rw[List.append_assoc,iR n1.2,n1.1,iR m0,FJ,List.append_assoc,List.append_assoc]
   rw[e]
   have j:=FH d0 h0
   have a:=KO (x:=iX b++rest) hi h0
   have ea:aM 0 d0=(eC 0,jV (jd d0)):=by unfold aM;rw[j.2.1]
   obtain⟨m,h⟩:=bZ (TE (x:=rest) hi j.2.2 b)
   rw[j.1,ea]at a
   obtain⟨m1,h1⟩:=bZ a
   have q:=eQ (eQ h h1) (wW i hi d _)
   rw[show wS [d0]=[(eC 0,jV (jd d0))]from by show [aM 0 d0]=_;rw[ea]]
   exact⟨_,_,q⟩
  | [d0,d1],h0=>
   have m0:=(FI d0 h0.1).1
   have m1:=(FI d1 h0.2).2
   have e:md false (((60::(iB i).1)++hZ [d0,d1])++iX b)++rest=(60::(iB i).1)++(md false (aW 0 d0)++(md false (aW 1 d1)++(iX b++rest))):=by
    show md false (((60::(iB i).1)++(aW 0 d0++aW 1 d1))++iX b)++rest=_
    rw[List.append_assoc,iR n1.2,n1.1,List.append_assoc,List.append_assoc (aW 0 d0),iR m0,iR m1,FJ,List.append_assoc,List.append_assoc]
   rw[e]
   have j:=FH d0 h0.1
   have k:=FH d1 h0.2
   have a:=KO (x:=md false (aW 1 d1)++(iX b++rest)) hi h0.1
   have c:=TC (x:=iX b++rest) hi j.2.2 h0.2
   have ea:aM 0 d0=(eC 0,jV (jd d0)):=by unfold aM;rw[j.2.1]
   have ec:aM 1 d1=(eC 1,jV (jd d1)):=by unfold aM;rw[k.2.1]
   obtain⟨m,h⟩:=bZ (TF (x:=rest) hi j.2.2 k.2.2 b)
   rw[j.1,ea]at a
   rw[k.1,ec]at c
   obtain⟨m1,h1⟩:=bZ a
   obtain⟨m2,h2⟩:=bZ c
   have q:=eQ (eQ (eQ h h2) h1) (wW i hi d _)
   rw[show wS [d0,d1]=[(eC 0,jV (jd d0)),(eC 1,jV (jd d1))]from by show [aM 0 d0,aM 1 d1]=_;rw[ea,ec]]
   exact⟨_,_,q⟩
 refine kB true rfl f (fun x rest=>Nat.ble_eq_true_of_le ?_) fun x rest=>⟨fun _=>rfl,rfl,by cases x <;>rfl⟩
 have l1:1≤(md false (Pc.st i ds b).w).length:=by
  show 1≤(md false (((60::(iB i).1)++hZ ds)++iX b)).length
  rw[List.append_assoc,iR n1.2,n1.1]
  exact Nat.succ_le_succ (Nat.zero_le _)
 show 1+0≤_
 omega
theorem Nq {c:Pc}(h:c.ok):PQ c:=match c,h with
 |.tx i,h=>TB i h
 |.st _ _ _,h=>TG h.1 h.2
 |.en _,h=>Sw h
 |.no _,h=>Sx h
 |.ha _,h=>Sy h
 |.ot _,h=>TA h
end
section
noncomputable def pZ:List Pc→Nm
 | []=>[]
 |c::cs=>c.w++pZ cs
noncomputable def Nr:List Pc→List Nm
 | []=>[]
 |c::cs=>c.fo.toList++Nr cs
noncomputable def FK:Bool→List Pc→List (Option Nm)
 |_,[]=>[]
 |x,c::cs=>(bif c.isT then []else [Vd c.isH x (md false (pZ cs))])++FK (x&& !c.isH) cs
noncomputable def Fj:List Pc→Bool
 | []=>true
 |c::cs=> !c.isH&&Fj cs
noncomputable def Tu:Nm→Bool
 | []=>false
 |a::_=> !Nat.beq a 10
theorem fF {α:Type}{l:List α}{d:α}{i:Nat}(h:i<l.length){p:α→Bool}(hp:l.all p=true):p (l[i]?.getD d)=true:=List.all_eq_true.mp hp _ (List.mem_of_getElem? (dQ h))
theorem TH {c:Pc}(h:c.ok):Tu c.w=true:=by
 cases c with
 |tx i=>exact fF (l:=iH) (d:=([],[],none)) h (p:=fun x=>Tu x.1) (by decide+kernel)
 |ot i=>exact fF (l:=eP) (d:=([],Item.text [],none)) h (p:=fun x=>Tu x.1) (by decide+kernel)
 |_=>rfl
theorem KP {w:Nm}(h:Tu w=true)(r:Nm)(b:Bool):md b (w++r)=md false (w++r):=by
 cases b with
 |false=>rfl
 |true=>cases w with
  |nil=>cases h
  |cons a w=>
   have:a≠10:=fun e=>by subst e;cases h
   exact Qe a this
theorem TJ:∀ {cs:List Pc},(∀ c∈cs,c.ok)→∀ b,md b (pZ cs)=md false (pZ cs)
 | [],_,b=>by cases b <;>rfl
 |c::cs,h,b=>KP (TH (h c (.head _))) _ b
theorem FL:∀ (cs:List Pc),(∀ c∈cs,c.ok)→∀ x,∃ O,Rq x (md false (pZ cs)) O (x&&Fj cs)∧Eqv (gA O) (cs.map Pc.it)∧n9 O=Nr cs∧lX O=FK x cs
 | [],_,x=>⟨[],by rw[show(x&&Fj [])=x from Bool.and_true x];exact Rq.nil x,fun _=>rfl,rfl,rfl⟩
 |c::cs,h,x=>by
  obtain⟨O,r,e1,e2,e3⟩:=FL cs (fun a m=>h a (.tail _ m)) (x&& !c.isH)
  obtain⟨O1,r1,B⟩:=Nq (h c (.head _)) x _ _ _ r
  refine⟨O1++O,?_,?_,?_,?_⟩
  ·have:(x&&Fj (c::cs))=(x&& !c.isH&&Fj cs):=(Bool.and_assoc ..).symm
   rw[this]
   show Rq x (md false (c.w++pZ cs)) _ _
   rw[fV,TJ fun a m=>h a (.tail _ m)]
   exact r1
  ·rw[eD];exact .app (b:=[c.it]) B.it e1
  ·rw[eZ,B.er,e2];rfl
  ·rw[e8,B.pl,e3];rfl
theorem zF:∀ (w:Nm) (a:Nat) (p:Int×Int),l9 p a w=dJ p (md (Nat.beq a 13) w)
 | [],a,p=>by cases Nat.beq a 13 <;>rfl
 |b::w,a,p=>by
  show l9 (pV p a b) b w=_
  rw[zF w b,eA]
  have n1:∀ u v:Nat,nb [u] [v]=Nat.beq u v:=fun u v=>by unfold nb;cases Nat.beq u v <;>rfl
  unfold pV
  rw[n1,n1,n1]
  cases h1:Nat.beq b 13 with
  |true=>
   show dJ _ _=dJ p (10::md true w)
   rfl
  |false=>cases h2:Nat.beq b 10 with
   |true=>
    cases Nat.beq_eq.mp h2
    cases Nat.beq a 13 with
    |true=>rfl
    |false=>rfl
   |false=>
    cases h3:Nat.beq a 13 with
    |true=>
     show dJ (p.1,p.2+1) (md false w)=dJ p (b::md false w)
     show _=dJ (if b=10 then _ else _) _
     rw[if_neg (Jq h2)]
    |false=>
     show dJ (p.1,p.2+1) (md false w)=dJ p (b::md false w)
     show _=dJ (if b=10 then _ else _) _
     rw[if_neg (Jq h2)]
noncomputable abbrev fd (cs:List Pc)(s:Lw):Lw:=cs.foldl Lw.step s
theorem KQ:∀ (cs:List Pc) (s:Lw),(fd cs s).tx=s.tx++pZ cs∧(fd cs s).row=cD s.row (cs.map Pc.it)∧(fd cs s).fs=s.fs++Nr cs
 | [],s=>⟨(List.append_nil _).symm,rfl,(List.append_nil _).symm⟩
 |c::cs,s=>by
  have h:=KQ cs (s.step c)
  exact⟨h.1.trans (List.append_assoc ..),h.2.1,h.2.2.trans (List.append_assoc ..)⟩
noncomputable def Inv (s:Lw):Prop:=s.p=dJ (1,0) (md false s.tx)
theorem Inv.step {s:Lw}(h:Inv s){c:Pc}(hc:c.ok):Inv (s.step c)∧md false (s.tx++c.w)=md false s.tx++md false c.w:=by
 have e:md false (s.tx++c.w)=md false s.tx++md false c.w:=by
  have:=KP (TH hc) [] (DI false s.tx)
  rw[List.append_nil]at this
  rw[fV,this]
 refine⟨?_,e⟩
 show l9 s.p 32 c.w=dJ (1,0) (md false (s.tx++c.w))
 rw[zF,e,fT,← show s.p=dJ (1,0) (md false s.tx)from h]
 rfl
theorem FM:∀ (cs:List Pc) (s:Lw),Inv s→(∀ c∈cs,c.ok)→Inv (fd cs s)
 | [],_,h,_=>h
 |c::cs,s,h,ok=>FM cs (s.step c) (h.step (ok c (.head _))).1 fun a m=>ok a (.tail _ m)
theorem zG:∀ (cs:List Pc) (s:Lw),∃ t,(fd cs s).pts=s.pts++t
 | [],s=>⟨[],(List.append_nil _).symm⟩
 |c::cs,s=>by
  obtain⟨t,h⟩:=zG cs (s.step c)
  cases q:c.isT with
  |true=>exact⟨t,h.trans (by show(bif c.isT then _ else _)++t=_;rw[q];rfl)⟩
  |false=>exact⟨l9 s.p 32 c.w::t,h.trans (by show(bif c.isT then _ else s.pts++[l9 s.p 32 c.w])++t=_;rw[q];show(s.pts++[_])++t=_;rw[List.append_assoc];rfl)⟩
theorem zH:∀ (cs:List Pc) (s:Lw) (m:Nat),s.ca=some m→(fd cs s).ca=some m
 | [],_,_,h=>h
 |c::cs,s,m,h=>zH cs (s.step c) m (by show(bif c.isH then Sd s.pts.length s.ca else s.ca)=_;rw[h];cases c.isH <;>rfl)
noncomputable def Wh (ca:Option Nat)(a b:List D)(n:Bool):Prop:=match ca with
 |none=>b=a∧n=true
 |some m=>a.take m=b.take m
theorem FN {T:Nm}:∀ (cs:List Pc) (s:Lw) (ps:List D),(∀ c∈cs,c.ok)→Inv s→T=md false s.tx++md false (pZ cs)→s.ca=none→PlR T ps (FK true cs)→Wh (fd cs s).ca (s.pts.map fQ++ps) ((fd cs s).pts.map fQ) (Fj cs)
 | [],s,ps,_,_,_,hca,h=>by
  cases h
  show Wh s.ca _ (s.pts.map fQ) true
  rw[hca]
  exact⟨(List.append_nil _).symm,rfl⟩
 |c::cs,s,ps,ok,I,hT,hca,h=>by
  have okc':=ok c (.head _)
  have ok':∀ a∈cs,a.ok:=fun a m=>ok a (.tail _ m)
  obtain⟨I1,e1⟩:=I.step okc'
  have hT':T=md false (s.step c).tx++md false (pZ cs):=by
   show T=md false (s.tx++c.w)++_
   rw[e1,List.append_assoc,hT]
   show _++md false (c.w++pZ cs)=_
   rw[fV,TJ ok']
  cases hH:c.isH with
  |true=>
   have hc1:(s.step c).ca=some s.pts.length:=by show(bif c.isH then Sd s.pts.length s.ca else s.ca)=_;rw[hH,hca];rfl
   have hk:=zH cs (s.step c) _ hc1
   obtain⟨t,ht⟩:=zG (c::cs) s
   refine(hk:(fd (c::cs) s).ca=_) ▸ ?_
   show(s.pts.map fQ++ps).take s.pts.length=((fd (c::cs) s).pts.map fQ).take s.pts.length
   rw[ht,List.map_append,List.take_append_of_le_length (by rw[List.length_map];exact Nat.le_refl _),List.take_append_of_le_length (by rw[List.length_map];exact Nat.le_refl _)]
  |false=>
   have hc1:(s.step c).ca=none:=by show(bif c.isH then Sd s.pts.length s.ca else s.ca)=_;rw[hH];exact hca
   have h:PlR T ps ((bif c.isT then []else [Vd c.isH true (md false (pZ cs))])++FK (true&& !c.isH) cs):=h
   rw[hH]at h
   have nh:Fj (c::cs)=Fj cs:=by show(!c.isH&&Fj cs)=_;rw[hH];rfl
   rw[nh]
   cases KL:c.isT with
   |true=>
    rw[KL]at h
    have q:=FN cs (s.step c) ps ok' I1 hT' hc1 h
    have ep:(s.step c).pts=s.pts:=by show(bif c.isT then _ else _)=_;rw[KL];rfl
    rw[ep]at q
    exact q
   |false=>
    rw[KL]at h
    have h:PlR T ps (some (md false (pZ cs))::FK true cs):=h
    cases h with
    | @cons _ ds _ _ hd hr=>
     obtain⟨p,hp,rfl⟩:=hd _ rfl
     have pe:p=md false (s.step c).tx:=List.append_cancel_right (hp.symm.trans hT')
     have q:=FN cs (s.step c) ds ok' I1 hT' hc1 hr
     have ep:(s.step c).pts=s.pts++[(s.step c).p]:=by show(bif c.isT then _ else s.pts++[l9 s.p 32 c.w])=_;rw[KL];rfl
     have ed:(D.tup [.int ((dJ (0,0) p).1+1),.int (dJ (0,0) p).2])=fQ (s.step c).p:=by
      rw[show(s.step c).p=dJ (1,0) (md false (s.step c).tx)from I1,← pe,show dJ (1,0) p=_ from FA 0 0 p];rfl
     rw[ep,List.map_append,List.append_assoc]at q
     rw[ed]
     exact q
end
section
noncomputable def wB (w:Nm):Bool:=w.all v8&&Nat.ble 2 w.length
theorem Nt:∀ d<30,(aW 0 d).all v8=true∧(aW 1 d).all v8=true:=by decide+kernel
theorem Vn:(names.all fun x=>x.1.all v8)=true:=by decide+kernel
theorem TK {c:Pc}(h:c.ok):c.w.all v8=true∧2≤c.w.length:=by
 have out:∀ w,wB w=true→w.all v8=true∧2≤w.length:=fun w q=>have q:=Bool.and_eq_true_iff.mp q;⟨q.1,Nat.le_of_ble_eq_true q.2⟩
 cases c with
 |tx i=>exact out _ (fF (l:=iH) (d:=([],[],none)) h (p:=fun x=>wB x.1) (by decide+kernel))
 |ot i=>exact out _ (fF (l:=eP) (d:=([],Item.text [],none)) h (p:=fun x=>wB x.1) (by decide+kernel))
 |en i=>exact out _ (fF (l:=names) (d:=([],[])) h (p:=fun x=>wB (([60,47]++x.1)++[62])) (by decide+kernel))
 |no i=>exact out _ (fF (l:=j5) (d:=([],[])) h (p:=fun x=>wB ((Xu++x.1)++[45,45,62])) (by decide+kernel))
 |ha i=>exact out _ (fF (l:=eO) (d:=[]) h (p:=fun x=>wB (([60,33]++x)++[62])) (by decide+kernel))
 |st i ds b=>
  have n1:(iB i).1.all v8=true:=fF (l:=names) (d:=([],[])) h.1 Vn
  have a1:(hZ ds).all v8=true:=by
   match ds,h.2 with
   | [],_=>rfl
   | [d],hd=>exact(Nt d hd).1
   | [d,e],hd=>show(aW 0 d++aW 1 e).all v8=true;rw[List.all_append,(Nt d hd.1).1,(Nt e hd.2).2];rfl
  have c1:(iX b).all v8=true∧1≤(iX b).length:=by cases b <;>decide+kernel
  refine⟨?_,?_⟩
  ·show(((60::(iB i).1)++hZ ds)++iX b).all v8=true
   rw[List.all_append,List.all_append,a1,c1.1,List.all_cons,n1];rfl
  ·show 2≤(((60::(iB i).1)++hZ ds)++iX b).length
   rw[List.length_append,List.length_append]
   show 2≤(iB i).1.length+1+_+_
   lia
theorem TM:∀ {cs:List Pc},(∀ c∈cs,c.ok)→(pZ cs).all v8=true
 | [],_=>rfl
 |c::cs,h=>by
  show(c.w++pZ cs).all v8=true
  rw[List.all_append,(TK (h c (.head _))).1,TM fun a m=>h a (.tail _ m)];rfl
theorem TN {c:Pc}(h:c.ok):c.fo.toList.filter bY=c.fo.toList:=by
 cases c with
 |tx i=>
  have q:=fF (l:=iH) (d:=([],[],none)) h (p:=fun x=>x.2.2.toList.all bY) (by decide+kernel)
  exact List.filter_eq_self.mpr fun a m=>List.all_eq_true.mp q a m
 |ot i=>
  have q:=fF (l:=eP) (d:=([],Item.text [],none)) h (p:=fun x=>x.2.2.toList.all bY) (by decide+kernel)
  exact List.filter_eq_self.mpr fun a m=>List.all_eq_true.mp q a m
 |ha i=>show List.filter bY [_]=[_];decide+kernel
 |_=>rfl
theorem FO:∀ {cs:List Pc},(∀ c∈cs,c.ok)→(Nr cs).filter bY=Nr cs
 | [],_=>rfl
 |c::cs,h=>by
  show(c.fo.toList++Nr cs).filter bY=_
  rw[List.filter_append,TN (h c (.head _)),FO fun a m=>h a (.tail _ m)];rfl
theorem Nu {cs:List Pc}(ne:cs≠[])(le:cs.length≤6)(ok:∀ c∈cs,c.ok):PlainL (cs.foldl Lw.step s0):=by
 obtain⟨e1,e2,e3⟩:=KQ cs s0
 have sm:=rS cs 0 s0 Ey ok
 have htx:=sm.tx
 have e1:(cs.foldl Lw.step s0).tx=pZ cs:=e1
 have e3:(cs.foldl Lw.step s0).fs=Nr cs:=e3
 have I0:Inv s0:=rfl
 have I:=FM cs s0 I0 ok
 obtain⟨O,r,o1,o2,o3⟩:=FL cs ok true
 obtain⟨k,evs,q⟩:=r .non
 have tl:(md false (pZ cs)).length≤1200:=by
  rw[← cB]
  have m:(aY (pZ cs)).length≤(pZ cs).length:=by
   unfold aY
   exact Nat.le_trans (eT (by simp) (by simp) _ _ (Nat.le_refl _)) (eT (by simp) (by simp) _ _ (Nat.le_refl _))
  rw[e1]at htx
  lia
 have sz:=q.sz
 unfold zC at sz
 refine⟨fun c m=>?_,?_,k,evs,true&&Fj cs,?_,?_,?_,?_,by lia,by lia,fun ps hps=>?_⟩
 ·rw[e1]at m
  exact List.all_eq_true.mp (TM ok) c m
 ·rw[e1]
  cases cs with
  |nil=>exact absurd rfl ne
  |cons c cs=>
   have:=(TK (ok c (.head _))).2
   show 2≤(c.w++pZ cs).length
   rw[List.length_append];lia
 ·rw[e1];exact q.run
 ·exact(q.eqv []).trans ((o1 []).trans e2.symm)
 ·rw[q.er,o2,FO ok,e3]
 ·rw[q.er,o2,e3]
 ·rw[e1,q.pl,o3]at hps
  have p:=FN (T:=md false (pZ cs)) cs s0 ps ok I0 rfl rfl hps
  cases h:(fd cs s0).ca with
  |none=>
   try rw[h]at p
   exact⟨p.1.symm,by rw[p.2];rfl,I⟩
  |some m=>
   try rw[h]at p
   exact p
theorem FP {z:bS}(G:GenD z.K 268 gN gI.b)(R:RplOk z.K){ns:List Int}(hn:ns.length≤1000):CallOk z.c 14 827 [.dat (.lst (bQ ns))] [] (.dat (.boo true)) []:=
 Sv G R (fun _ ne le ok=>Nu ne le ok) hn
end
section
noncomputable abbrev KK (P:Params)(K2:Frag):Frag:=Uj P++K2
noncomputable def Tw:V→Value
 |.dat (.boo b)=>.bool b
 |.dat (.int i)=>.int i 740
 |_=>.none
noncomputable def Vo:V→Bool
 |.dat .non=>true
 |.dat (.boo _)=>true
 |.dat (.int _)=>true
 |_=>false
theorem TO {P:Params}{W:Wd}{v:V}(h:Vo v=true):VR P W v (Tw v):=by
 cases v with
 |dat d=>cases d with
  |non=>rfl
  |boo _=>rfl
  |int _=>exact .mk 740
  |_=>cases h
 |_=>cases h
theorem FR {P:Params}{W:Wd}:∀ {ds:List V},ds.all Vo=true→VRs P W ds (ds.map Tw)
 | [],_=>rfl
 |_::_,h=>have q:=Bool.and_eq_true_iff.mp h;.mk (TO q.1) (FR q.2)
noncomputable def lA (x:Pl):Fn:=kS iU x.2.1 x.2.2
structure FV where
 body:FuncBody
 clo:List (Str×Addr)
 glob:Addr
 blt:Addr
 co:Bool
 gen:Bool
 kind:ScopeKind
 names:aG
 cells:List Nm
 code:Value
 qual:Str
 kinds:List (Option NameKind)
 pars:List Nm
noncomputable def Nv (x:Pl):Option FV:=(iM x).map fun fd=>⟨fd.body,fd.closure,fd.globals,fd.builtins,fd.scope.isCoroutine,fd.scope.isGenerator,fd.scope.kind,fd.scope.names,b8 (lA x).names,fd.code,fd.qualname,(lA x).params.map (fun y=>(lA x).names.lookup (st y)),fd.params.args.map (fun y=>y.arg.cps.toList)⟩
noncomputable def TP (g:Bool)(x:Pl):Option FV:=some ⟨.stmts (lA x).body,[],mainGlobals,builtinsNs,false,g,.function,(lA x).names,(lA x).cells,.ref (x.1-1),(lI x.2.1 iU.main.body).2,(lA x).params.map (fun y=>some (match bM y (lA x).cells with|true=>.cell|false=>.local)),(lA x).params⟩
noncomputable def FS:Pl:=(AN.1,AN.2,[])
theorem Nw:qT.map Nv=qT.map (TP false):=by kernel_rfl
theorem wX:Nv FS=TP true FS:=by kernel_rfl
theorem TQ:(qT.all fun x=>x.2.2.all Vo&&Nat.ble (lA x).params.length 7)=true:=by kernel_rfl
noncomputable def Wj (q:Str):List Value→Bool
 |_::.str n _::_=>n==q
 |_=>false
theorem Vp {q:Str}{l:List Value}(h:WP l=some q):Wj q l=true:=by
 cases l with
 |nil=>cases h
 |cons a r=>cases r with
  |nil=>cases h
  |cons b r=>cases b with
   |str n t=>cases h;exact beq_self_eq_true _
   |_=>cases h
theorem JA {K:Frag}{c:Nat}{q:Str}(h:qV K c=some q):codeIn K (.ref c) q=true:=by
 have g:codeIn K (.ref c) q=(match K.lookup c with|some ⟨_,_,.fields vs,_⟩=>(match vs.toList with|_::.str n _::_=>n==q|_=>false)|_=>false):=rfl
 unfold qV at h
 rw[g]
 cases e:K.lookup c with
 |none=>rw[e]at h;cases h
 |some o=>
  rw[e]at h
  obtain⟨_,_,d,_⟩:=o
  cases d with
  |fields vs=>
   show Wj q vs.toList=true
   exact Vp h
  |_=>cases h
section
variable {P:Params}{K2:Frag}
theorem TR (P:Params)(K2:Frag):kU.map (fun x=>(KK P K2).lookup x.1)=kU.map fun x=>some (Jm x).2:=by kernel_rfl
theorem JB (P:Params)(K2:Frag):kU.map (fun x=>qV (KK P K2) (x.1-1))=Uk K2:=by kernel_rfl
noncomputable def TS (k:Nat)(x:Pl):Bool:=Nat.ble k (lA x).params.length&&Nat.ble (lA x).params.length (k+x.2.2.length)
noncomputable def Wk (K:Frag)(S:Setting)(f:Nat→Value)(k:Nat)(x:Pl):Option (List (Str×Value)):=(iM x).bind fun fd=>peek K S (bindArgs fd ⟨(List.range k).map f,[]⟩)
noncomputable def Wl (f:Nat→Value)(k:Nat)(x:Pl):Option (List (Str×Value)):=some (mF (lA x).params ((List.range k).map f++(x.2.2.map Tw).drop (x.2.2.length - ((lA x).params.length-k))))
theorem JC (P:Params)(K2:Frag)(S:Setting)(f:Nat→Value):(List.range 8).map (fun k=>(qT.filter (TS k)).map (Wk (KK P K2) S f k))=(List.range 8).map fun k=>(qT.filter (TS k)).map (Wl f k):=by kernel_rfl
theorem FU (P:Params)(K2:Frag)(S:Setting)(v:Value):(iM FS).bind (fun fd=>peek (KK P K2) S (bindArgs fd ⟨[v],[]⟩))=some [(st eK,v)]:=by kernel_rfl
theorem JD (vals:List Value):vals=(List.range vals.length).map fun i=>vals[i]?.getD .none:=by
 refine List.ext_getElem (by rw[List.length_map,List.length_range]) fun i h1 h2=>?_
 rw[List.getElem_map,List.getElem_range,List.getElem?_eq_getElem h1];rfl
theorem zI {x:Pl}{fd:FuncData}(hx:x∈kU)(e:iM x=some fd):(KK P K2).lookup x.1=some ⟨.type "function",none,.func fd,#[]⟩:=by
 have h:=List.map_inj_left.mp (TR P K2) x hx
 rw[h]
 show some (match iM x with|some fd=>_|none=>_)=_
 rw[e]
theorem TU {x:Pl}{fd:FuncData}(hx:x∈kU)(e:iM x=some fd):fnIn (KK P K2) x.1=true:=by unfold fnIn;rw[zI hx e]
theorem KS {x:Pl}{g:Bool}(h:Nv x=TP g x):∃ fd,iM x=some fd:=by
 unfold Nv at h
 cases e:iM x with
 |none=>rw[e]at h;cases h
 |some fd=>exact⟨fd,rfl⟩
theorem FW {x:Pl}{g:Bool}{fd:FuncData}(h:Nv x=TP g x)(e:iM x=some fd):(⟨fd.body,fd.closure,fd.globals,fd.builtins,fd.scope.isCoroutine,fd.scope.isGenerator,fd.scope.kind,fd.scope.names,b8 (lA x).names,fd.code,fd.qualname,(lA x).params.map (fun y=>(lA x).names.lookup (st y)),fd.params.args.map (fun y=>y.arg.cps.toList)⟩:FV)=
  ⟨.stmts (lA x).body,[],mainGlobals,builtinsNs,false,g,.function,(lA x).names,(lA x).cells,.ref (x.1-1),(lI x.2.1 iU.main.body).2,(lA x).params.map (fun y=>some (match bM y (lA x).cells with|true=>.cell|false=>.local)),(lA x).params⟩:=by
 unfold Nv at h
 rw[e]at h
 exact Option.some.inj h
noncomputable abbrev uD (K2:Frag):Prop:=Uk K2=kU.map fun x=>some (lI x.2.1 iU.main.body).2
theorem zJ {x:Pl}{fd:FuncData}{g:Bool}(hc:uD K2)(hx:x∈kU)(h:Nv x=TP g x)(e:iM x=some fd):codeIn (KK P K2) fd.code fd.qualname=true:=by
 have v:=FW h e
 rw[show fd.code=_ from congrArg FV.code v,show fd.qualname=_ from congrArg FV.qual v]
 exact JA (List.map_inj_left.mp ((JB P K2).trans hc) x hx)
theorem TV (hc:uD K2){x:Pl}(hx:x∈qT):FnD P (KK P K2) x.1 (lA x):=by
 have hg:x∈kU:=.tail _ hx
 have h:=List.map_inj_left.mp Nw x hx
 obtain⟨fd,e⟩:=KS h
 have v:=FW h e
 have b:=Bool.and_eq_true_iff.mp (List.all_eq_true.mp TQ x hx)
 have hd:(lA x).dflt=x.2.2:=by
  unfold lA kS
  unfold iM at e
  cases q:yA x.2.1 iU.main.body with
  |none=>rw[q]at e;cases e
  |some y=>rfl
 refine .mk _ fd (zI hg e) rfl (TU hg e) ⟨zJ hc hg h e,congrArg FV.body v,congrArg FV.clo v,congrArg FV.glob v,congrArg FV.blt v,congrArg FV.co v,congrArg FV.gen v,congrArg FV.kind v,congrArg FV.names v,congrArg FV.cells v,congrArg FV.pars v,List.map_inj_left.mp (congrArg FV.kinds v)⟩ (x.2.2.map Tw) (by rw[hd];exact FR b.1) ?_
 rw[hd]
 intro s vals KI h1 h2
 have lt:vals.length<8:=Nat.lt_succ_of_le (Nat.le_trans h1 (Nat.le_of_ble_eq_true b.2))
 refine fun M A E Q q=>(Looks.of_peek (M:=M) KI ?_).here q
 have w:=List.map_inj_left.mp (List.map_inj_left.mp (JC P K2 ⟨M.prog,M.w.params⟩ fun i=>vals[i]?.getD .none) vals.length (List.mem_range.mpr lt)) x (List.mem_filter.mpr ⟨hx,Bool.and_eq_true_iff.mpr ⟨Nat.ble_eq_true_of_le h1,Nat.ble_eq_true_of_le h2⟩⟩)
 unfold Wk Wl at w
 rw[e,← JD]at w
 exact w
theorem Ny (hc:uD K2):∀ a F,(a,F)∈Hr→FnD P (KK P K2) a F:=fun a F m=>by
 obtain⟨x,hx,q⟩:=List.mem_map.mp m
 cases q
 exact TV hc hx
theorem FX:gN.lookup (st eK)=some .local:=by kernel_rfl
theorem Aj:b8 gN=[]:=by kernel_rfl
theorem FY:(lA FS).body=gI.b:=by kernel_rfl
theorem Nz (hc:uD K2):GenD (KK P K2) 268 gN gI.b:=by
 have hx:FS∈kU:=.head _
 obtain⟨fd,e⟩:=KS wX
 have v:=FW wX e
 refine .mk _ fd (zI hx e) rfl ⟨zJ hc hx wX e,(congrArg FV.body v).trans (congrArg FuncBody.stmts FY),congrArg FV.clo v,congrArg FV.glob v,congrArg FV.blt v,congrArg FV.co v,congrArg FV.gen v,congrArg FV.kind v,congrArg FV.names v,Aj,FX⟩ fun s v KI=>fun M A E Q q=>(Looks.of_peek (M:=M) KI ?_).here q
 have w:=FU P K2 ⟨M.prog,M.w.params⟩ v
 rw[e]at w
 exact w
end
end
section
structure MV where
 find:Option (Option Value)
 type:Option Value
 get:Option (Option Value)
 takes:Option Bool
 copied:Bool
structure CV where
 get:Bool
 dict:Bool
 over:Bool
 set:Option (Option Value)
 makes:Bool
 keep:Bool
 fields:List (Option (Option Value))
 meths:List MV
 consts:List MV
noncomputable def cU:V→Value
 |.dat (.int i)=>.int i 624
 |_=>.none
noncomputable def XT (K:Frag)(c:Cl):CV:=⟨plainGet K c.adr Str.empty,hasDictIn K c.adr,plainOver K c.adr,findIn K (.ref c.adr) "__setattr__",makesIn K c.adr,keepIn K (.ref c.adr),c.fields.map fun x=>findIn K (.ref c.adr) (st x),
 c.meths.map fun m=>⟨findIn K (.ref c.adr) (st m.1),typeIn K (.ref m.2),specialIn K (.ref m.2) "__get__",takesIn K (.ref m.2),copiedNames.contains (st m.1)⟩,c.consts.map fun x=>⟨findIn K (.ref c.adr) (st x.1),none,specialIn K (cU x.2) "__get__",none,copiedNames.contains (st x.1)⟩⟩
noncomputable def Vq (c:Cl):CV:=⟨true,true,true,some (some (.builtin "object.__setattr__")),true,true,c.fields.map fun _=>some none,
 c.meths.map fun m=>⟨some (some (.ref m.2)),some (.type "function"),some (some (.builtin "function.__get__")),some false,false⟩,c.consts.map fun x=>⟨some (some (cU x.2)),none,some none,none,false⟩⟩
theorem OA (P:Params)(K2:Frag):lV.cls.map (XT (KK P K2))=lV.cls.map Vq:=by kernel_rfl
theorem Ak:(lV.cls.map fun c=>c.consts.map (·.2)).flatten=[.dat (.int 10240)]:=by kernel_rfl
theorem iS {α:Type}{x:Nm}{v:α}:∀ {l:List (Nm×α)},lk l x=some v→(x,v)∈l
 | [],h=>nomatch h
 |(y,u)::l,h=>(qC h).elim (fun q=>q.1▸q.2 ▸ .head _) fun q=>.tail _ (iS q.2)
section
variable {P:Params}{K2:Frag}
theorem TW {c:Cl}(hc:c∈lV.cls):ClOk P (KK P K2) c.adr c:=by
 have h:=List.map_inj_left.mp (OA P K2) c hc
 refine⟨congrArg CV.get h,congrArg CV.dict h,congrArg CV.over h,congrArg CV.set h,congrArg CV.makes h,congrArg CV.keep h,fun x hx=>?_,fun m f hm=>?_,fun x v hx=>?_⟩
 ·obtain⟨y,hy,e⟩:=List.any_eq_true.mp hx
  rw[← bO e]
  exact List.map_inj_left.mp (congrArg CV.fields h) y hy
 ·have q:=List.map_inj_left.mp (congrArg CV.meths h) _ (iS hm)
  exact⟨congrArg MV.find q,congrArg MV.type q,congrArg MV.get q,congrArg MV.takes q,congrArg MV.copied q⟩
 ·have hm:=iS hx
  have q:=List.map_inj_left.mp (congrArg CV.consts h) _ hm
  have e:v∈(lV.cls.map fun c=>c.consts.map (·.2)).flatten:=List.mem_flatten.mpr ⟨_,List.mem_map.mpr ⟨c,hc,rfl⟩,List.mem_map.mpr ⟨_,hm,rfl⟩⟩
  rw[Ak]at e
  cases List.mem_singleton.mp e
  exact .mk _ (congrArg MV.find q) (congrArg MV.get q) rfl (congrArg MV.copied q) (.mk 624)
noncomputable def nsE (K:Frag)(a:Nat):Array DictEntry:=match K.lookup a with
 |some ⟨_,_,.dict en _,_⟩=>en
 |_=>#[]
theorem zK {en:Array DictEntry}(h:en.toList.all s9=true):StrKeys en:=fun e m=>by
 have q:=List.all_eq_true.mp h e (Array.mem_toList_iff.mpr m)
 unfold s9 at q
 cases k:e.key with
 |str n t=>exact⟨n,t,rfl⟩
 |_=>rw[k]at q;cases q
theorem lB {en:Array DictEntry}{n:Str}{u:Option Value}(h:lC n en.toList=u):nsFind en n=u:=(mE n en.toList).trans h
noncomputable def TX {R:List Value→Prop}(K:Frag)(c:String)(f:(vs:List Value)→Mb (R vs))(a:Nat):Mb (IsSeq (W0 K).fz c R (.ref a)):=match e:K.lookup a with
 |some ⟨.type d,none,.seq ⟨vs⟩ n,⟨[]⟩⟩=>match String.decEq d c with
  |.isTrue h=>(f vs).tkn fun r=>.ok (.mk a vs n (h▸e) r)
  |.isFalse _=>.no
 |_=>.no
mutual
noncomputable def dM (P:Params)(K:Frag):(d:D)→(v:Value)→Mb (DR P (W0 K).fz d v)
 |.non,.none=>.ok rfl
 |.int i,.int j t=>.gvn (kC i j) fun e=>.ok (eq_of_beq ((bE i j).trans e) ▸ .mk t)
 |.str x,.str s t=>.gvn (nb s.cps.toList x) fun e=>.ok (bO e ▸ .mk t)
 |.tup ds,.ref a=>TX K "tuple" (Vt P K ds) a
 |.lst ds,.ref a=>TX K "list" (Vt P K ds) a
 |_,_=>.no
noncomputable def Vt (P:Params)(K:Frag):(ds:List D)→(vs:List Value)→Mb (DRs P (W0 K).fz ds vs)
 | [],[]=>.ok rfl
 |d::ds,v::vs=>(dM P K d v).tkn fun a=>(Vt P K ds vs).tkn fun r=>.ok (.mk a r)
 |_,_=>.no
end
noncomputable def vM (P:Params)(K:Frag):(v:V)→(u:Value)→Mb (VR P (W0 K) v u)
 |.top a,.ref b=>.gvn (Nat.beq b a) fun e=>.ok (congrArg Value.ref (Nat.eq_of_beq_eq_true e))
 |.dat d,u=>dM P K d u
 |_,_=>.no
noncomputable def uE:V→Bool
 |.dat (.dct _)=>true
 |_=>false
noncomputable def Tx (e:DictEntry):Str×PySem.Tok×Value:=match e.key with
 |.str s t=>(s,t,e.val)
 |_=>(st [],0,.none)
noncomputable def kE (P:Params)(s:Str×PySem.Tok×Value):DictEntry:=⟨PyData.keyHash P s.1,.str s.1 s.2.1,s.2.2⟩
theorem n7 {P:Params}{R:Value→Prop}{x:Nm}{s:Str×PySem.Tok×Value}(h:s.1=st x)(r:R s.2.2):Ent P x R (kE P s):=.mk _ s.2.1 (congrArg (PyData.keyHash P) h) (congrArg (fun u=>Value.str u s.2.1) h) r
noncomputable def Vu (P:Params)(K:Frag):(es:List (Nm×D))→(sp:List (Str×PySem.Tok×Value))→Mb (DRe P (W0 K).fz es (sp.map (kE P)))
 | [],[]=>.ok rfl
 |(x,d)::es,s::sp=>.gvn (nb s.1.cps.toList x) fun e=>(dM P K d s.2.2).tkn fun r=>(Vu P K es sp).tkn fun q=>.ok (.mk (n7 (show s.1=st x from bO e▸rfl) r) q)
 |_,_=>.no
noncomputable def FZ (P:Params)(a:Nat):List DictEntry:=(nsE (QV P) a).toList
theorem TY (P:Params):[48,43,235].map (FZ P)=[48,43,235].map fun a=>((FZ P a).map Tx).map (kE P):=by kernel_rfl
theorem KT {P:Params}{a:Nat}(h:a∈[48,43,235]):FZ P a=((FZ P a).map Tx).map (kE P):=List.map_inj_left.mp (TY P) a h
theorem JF:lV.glob.filter (fun x=>uE x.2)=[(Xq,.dat cY),(Xl,.dat d9)]:=by kernel_rfl
noncomputable def Wm:D→List (Nm×D)
 |.dct es=>es
 |_=>[]
theorem Vv (P:Params)(K2:Frag):(Vu P (KK P K2) (Wm d9) ((FZ P 48).map Tx)).yes=true:=by kernel_rfl
theorem Vx (P:Params)(K2:Frag):(Vu P (KK P K2) (Wm cY) ((FZ P 43).map Tx)).yes=true:=by kernel_rfl
theorem TZ (P:Params)(K2:Frag):DR P (W0 (KK P K2)).fz d9 (.ref 48):=.mk 48 (FZ P 48) 8 (by kernel_rfl) (by rw[KT (by decide)];exact Mb.out (Vv P K2))
theorem KU (P:Params)(K2:Frag):DR P (W0 (KK P K2)).fz cY (.ref 43):=.mk 43 (FZ P 43) 43 (by kernel_rfl) (by rw[KT (by decide)];exact Mb.out (Vx P K2))
theorem OC (P:Params)(K2:Frag):(lV.glob.all fun x=>uE x.2||match lC (st x.1) (nsE (KK P K2) 3).toList with
 |some u=>(vM P (KK P K2) x.2 u).yes
 |none=>false)=true:=by kernel_rfl
theorem KV (P:Params)(K2:Frag):lC (st Xl) (nsE (KK P K2) 3).toList=some (.ref 48)∧lC (st Xq) (nsE (KK P K2) 3).toList=some (.ref 43):=⟨by kernel_rfl,by kernel_rfl⟩
theorem zL (P:Params)(K2:Frag):(KK P K2).lookup mainGlobals=some ⟨.type "dict",none,.dict (nsE (KK P K2) 3) 36,#[]⟩:=by kernel_rfl
theorem OD (P:Params)(K2:Frag):(nsE (KK P K2) 3).toList.all s9=true:=by kernel_rfl
theorem OE (P:Params)(K2:Frag):lV.blts.map (fun x=>lC (st x.1) (nsE (KK P K2) 3).toList)=lV.blts.map fun _=>none:=by kernel_rfl
theorem OF (P:Params)(K2:Frag):(KK P K2).lookup builtinsNs=K2.lookup builtinsNs:=by kernel_rfl
noncomputable def Vy (P:Params)(K:Frag):(v:V)→Mb (VR P (W0 K) v (AQ v))
 |.blt _=>.ok rfl
 |.typ _=>.ok rfl
 |_=>.no
theorem Ta (P:Params)(K:Frag):(lV.blts.all fun x=>(Vy P K x.2).yes)=true:=by kernel_rfl
noncomputable abbrev JG (K2:Frag):Prop:=MT K2=(true,lV.blts.map fun x=>some (AQ x.2))
theorem OG (h:JG K2):NsK (KK P K2) builtinsNs fun es=>∀ x v,lk lV.blts x=some v→∃ u,nsFind es (st x)=some u∧VR P (W0 (KK P K2)) v u:=by
 unfold JG MT at h
 cases e:K2.lookup builtinsNs with
 |none=>rw[e]at h;cases congrArg (·.1) h
 |some o=>
  rw[e]at h
  obtain⟨c,d,dt,sl⟩:=o
  cases dt with
  |dict en n=>
   replace h:(en.toList.all s9,lV.blts.map fun x=>lC (st x.1) en.toList)=(true,lV.blts.map fun x=>some (AQ x.2)):=h
   have h2:lV.blts.map (fun x=>lC (st x.1) en.toList)=lV.blts.map fun x=>some (AQ x.2):=congrArg (·.2) h
   exact .mk _ en n ((OF P K2).trans e) rfl (zK (congrArg (·.1) h)) fun x v hx=>have q:lC (st x) en.toList=some (AQ v):=List.map_inj_left.mp h2 (x,v) (iS hx);⟨_,lB q,Mb.out (List.all_eq_true.mp (Ta P (KK P K2)) _ (iS hx))⟩
  |_=>cases congrArg (·.1) h
theorem OH (P:Params)(K2:Frag):(KK P K2).lookup cStatics=some ⟨.none,none,.dict #[] 0,#[]⟩:=by kernel_rfl
theorem JH (P:Params)(K2:Frag):ModsOk (KK P K2):=.mk (ke P "builtins" 162 (.ref 4)) [ke P "__main__" 163 (.ref 5)] 2 162 (by kernel_rfl) (by kernel_rfl)
noncomputable def zM:Pl:=(283,[21,3],[.dat .non,.dat (.boo false)])
theorem Tb:zM∈qT:=fK (by kernel_rfl)
theorem zN:(iM zM).map (fun fd=>fd.params.args.map fun y=>y.arg.cps.toList)=some [Xv,Xd,Xb]:=by kernel_rfl
theorem JI (P:Params)(K2:Frag)(S:Setting)(v a b:Value):(iM zM).bind (fun fd=>peek (KK P K2) S (bindArgs fd ⟨[v],[(st Xd,a),(st Xb,b)]⟩))=some [(st Xv,v),(st Xd,a),(st Xb,b)]:=by kernel_rfl
theorem JK {α:Type}{us:List α}(h:us.length=2):∃ a b,us=[a,b]:=by
 cases us with
 |nil=>cases h
 |cons a r=>cases r with
  |nil=>cases h
  |cons b r=>cases r with
   |nil=>exact⟨a,b,rfl⟩
   |cons _ _=>cases h
theorem OI:∀ k∈lV.kws,KwOk (KK P K2) k.1 k.2.1 k.2.2:=fun k hk=>by
 cases List.mem_singleton.mp (hk:k∈[_])
 cases e:iM zM with
 |none=>have:=zN;rw[e]at this;cases this
 |some fd=>
  have p:=zN
  rw[e]at p
  refine .mk _ fd (zI (.tail _ Tb) e) rfl (Option.some.inj p) fun s v us KI l=>fun M A E Q q=>(Looks.of_peek (M:=M) KI ?_).here q
  obtain⟨a,b,rfl⟩:=JK l
  have w:=JI P K2 ⟨M.prog,M.w.params⟩ v a b
  rw[e]at w
  exact w
theorem OJ (P:Params)(K2:Frag):(dM P (KK P K2) v6 (.ref 243)).yes=true:=by kernel_rfl
theorem Tc (P:Params)(K2:Frag):(dM P (KK P K2) (.tup [.int 0,.int 43]) (.ref 246)).yes=true:=by kernel_rfl
theorem Td (P:Params)(K2:Frag):(dM P (KK P K2) (.str []) (.str (Str.ofString "") 835)).yes=true:=by kernel_rfl
noncomputable def XU (P:Params):List DictEntry:=[kE P (st Xy,832,.ref 43),kE P (st Xw,834,.ref 243),kE P (st Xk,837,.str (Str.ofString "") 835),kE P (st Xf,842,.ref 246)]
theorem JL (P:Params)(K2:Frag):∀ t∈lV.tops,TiOk P (KK P K2) t:=fun t ht=>by
 cases List.mem_singleton.mp (ht:t∈[_])
 exact .mk (XU P) 4 (.mk (n7 rfl (KU P K2)) (.mk (n7 rfl (Mb.out (OJ P K2))) (.mk (n7 rfl (Mb.out (Td P K2))) (.mk (n7 rfl (Mb.out (Tc P K2))) rfl)))) (by kernel_rfl) (by kernel_rfl)
noncomputable def Vz (e:DictEntry):Int×PySem.Tok×Value:=match e.key with
 |.int i t=>(i,t,e.val)
 |_=>(0,0,.none)
noncomputable def kI (s:Int×PySem.Tok×Value):DictEntry:=⟨hashInt s.1,.int s.1 s.2.1,s.2.2⟩
theorem OL (P:Params)(K2:Frag):(KK P K2).lookup 46=some ⟨.type "dict",none,.dict (((FZ P 46).map Vz).map kI).toArray 34,#[]⟩:=by kernel_rfl
theorem OM (P:Params):findBy Value.isInt (((FZ P 46).map Vz).map kI).toArray 65=none:=by kernel_rfl
theorem ON (P:Params)(K2:Frag):RplOk (KK P K2):=.mk _ (findBy Value.isInt (((FZ P 46).map Vz).map kI).toArray) (OL P K2) (fun h g=>⟨_,_,34,g,rfl,rfl,fun e m=>by
 obtain⟨s,_,q⟩:=List.mem_map.mp (Array.mem_toList_iff.mpr m)
 exact⟨s.1,s.2.1,q▸rfl,q▸rfl⟩,fun _=>rfl⟩) (OM P)
theorem OO (P:Params)(K2:Frag):(KK P K2).lookup rV=some ⟨.type "frame",none,.dict #[ke P "self" 829 (.ref 236),ke P "data" 830 (.ref 43)] 2,#[]⟩:=by kernel_rfl
theorem JM (h:JG K2):Top P (KK P K2) lV:=⟨⟨_,OO P K2⟩,JH P K2,OI,fun _ hc=>TW hc,JL P K2,.mk _ _ 36 (zL P K2) rfl (zK (OD P K2)) ⟨fun x v hx=>by
  have m:=iS hx
  cases d:uE v with
  |true=>
   have q:(x,v)∈lV.glob.filter (fun x=>uE x.2):=List.mem_filter.mpr ⟨m,d⟩
   rw[JF]at q
   cases q with
   |head=>exact⟨_,lB (KV P K2).2,KU P K2⟩
   |tail _ q=>
    cases List.mem_singleton.mp q
    exact⟨_,lB (KV P K2).1,TZ P K2⟩
  |false=>
   have q:(uE v||match lC (st x) (nsE (KK P K2) 3).toList with|some u=>(vM P (KK P K2) v u).yes|none=>false)=true:=List.all_eq_true.mp (OC P K2) _ m
   rw[d]at q
   cases e:lC (st x) (nsE (KK P K2) 3).toList with
   |none=>rw[e]at q;cases q
   |some u=>rw[e]at q;exact⟨u,lB e,Mb.out q⟩,fun x v hx=>have q:lC (st x) _=none:=List.map_inj_left.mp (OE P K2) (x,v) (iS hx);lB q⟩,OG h,.mk _ _ 0 (OH P K2) rfl (fun _ m=>nomatch Array.mem_toList_iff.mpr m) rfl⟩
end
end
section
theorem uH {R:WRecords}:∀ {xs:List WData},WShape.hasItems R xs .int=true→∃ ns:List Int,xs=ns.map WData.int
 | [],_=>⟨[],rfl⟩
 |x::xs,h=>by
  have h:(WShape.has R x .int&&WShape.hasItems R xs .int)=true:=h
  have q:=Bool.and_eq_true_iff.mp h
  obtain⟨ns,rfl⟩:=uH q.2
  cases x with
  |int i=>exact⟨i::ns,rfl⟩
  |_=>exact(Bool.false_ne_true q.1).elim
theorem Fa {d:WData}(h:WShape.has [] d (.list .int)=true):∃ ns:List Int,d=.list (ns.map WData.int):=by
 cases d with
 |list xs=>
  have h:(WShape.hasItems [] xs .int||false)=true:=h
  rw[Bool.or_false]at h
  exact(uH h).elim fun ns e=>⟨ns,congrArg WData.list e⟩
 |_=>exact(Bool.false_ne_true h).elim
noncomputable def WA (b:Bool):Bool:=WTm.holds [] (.and (.not (.lit (.bool b))) (.lit (.bool true))) {args:=[]}
theorem JN (ns:List Int):(PySem.Challenge.rw_te0044_01.pre).holds [] {args:=[.list (ns.map WData.int)]}=WA (decide ((63:Int) < ((ns.map WData.int).length:Int))):=by kernel_rfl
theorem Fb {args:List WData}(h:PySem.Challenge.rw_te0044_01.row.toRowW.claim.pre args=true):∃ ns:List Int,args=[.list (ns.map WData.int)]∧ns.length≤63:=by
 obtain⟨h1,h2⟩:=pre_splitW h
 obtain⟨d,r,rfl,h3,h4⟩:=hasAllW_cons (R:=[]) (e:=.list .int) (es:=[]) h1
 obtain rfl:=hasAllW_nil h4
 obtain⟨ns,rfl⟩:=Fa h3
 refine⟨ns,rfl,Nat.le_of_not_lt fun q=>?_⟩
 have h2:(PySem.Challenge.rw_te0044_01.pre).holds [] {args:=[.list (ns.map WData.int)]}=true:=h2
 have e:(63:Int) < (ns.length:Int):=Int.ofNat_lt.mpr q
 rw[JN,List.length_map,decide_eq_true e]at h2
 exact Bool.false_ne_true h2
theorem p0 {P:Params}{h:Heap}{fz:Addr→Option Obj}:∀ {ns:List Int} {vs:List Value},WellAll P h vs (ns.map WData.int)→DRs P fz (bQ ns) vs
 | [],vs,x=>by cases x;rfl
 |n::ns,vs,x=>by
  obtain⟨v,vs',rfl,y,z⟩:=wellAll_cons_inv x
  exact .mk (by cases y;exact .mk _) (p0 z)
theorem iT:∀ ns:List Int,ofPys (ns.map PyData.int)=ns.map WData.int
 | []=>by simp[ofPys]
 |n::ns=>by simp[ofPys,ofPy,iT ns]
theorem JO {R:WRecords}{w:World}{s₀ s₁:Shared}{ns:List Int}{a:Addr}{as:List Addr}(L:Laid R w s₀ s₁ [ofPy (PyData.list (ns.map PyData.int))] [.ref a] as)(nf:∀ b o,s₀.heap.get? b=some o→iC b o=false){b:Addr}{o:Obj}(g:s₁.heap.get? b=some o):iC b o=false:=by
 obtain⟨ord,_,e⟩:=L.laid
 simp only[ofPy,layAllW,layW]at e
 cases q:layAllW R (classAt s₀.heap) w.params ord (ofPys (List.map PyData.int ns)) s₀ with
 |none=>rw[q]at e;cases e
 |some r=>
  rw[q]at e
  have hh:=PySem.W.X.lay_ints ns s₀ r q
  simp only[Option.some.injEq,Prod.mk.injEq]at e
  rw[← e.2]at g
  by_cases k:b=r.2.heap.objs.size
  ·subst k
   rw[Heap.get?_push_size _ rfl]at g
   cases g;exact kH rfl
  ·refine nf b o ?_
   rw[← hh]
   have g:(r.2.heap.push _).get? b=some o:=g
   unfold Heap.get? at g ⊢
   unfold Heap.push at g
   rw[Array.getElem?_push,if_neg k]at g
   exact g
theorem wY {l:Nat}{o:O}(v:Lv [] l o):False:=nomatch v.e
theorem Fc {W:Wd}{b:Addr}:¬ Live W [] b:=fun|.mk _ _ v _=>nomatch v.e
theorem Fe {s₀ s₁:Shared}{n a:Nat}{args:List WData}{vals:List Value}{as:List Addr}{c:Cx}(hp:c.prog=iU)(L:Laid Tm.row.toRowW.records c.w s₀ s₁ args vals as)(hpre:Tm.row.toRowW.claim.pre args=true)(hwl:WellAll c.w.params s₁.heap vals args)
  (X:c.K.In s₁.heap)(nf:∀ b o,s₀.heap.get? b=some o→iC b o=false)(ht:0<s₀.toks)(hn:n≤50)(walk:∀ ns:List Int,ns.length≤1000→CallOk c n a [.dat (.lst (bQ ns))] [] (.dat (.boo true)) []):
  wpAny (model iU c.w) callerA (PySem.call (.ref a) vals) (fun v s'=>GoodWG Tm.row.toRowW.claim (classAt s₀.heap) (ExcName.means s₀.heap) args s₁ (.ok (.ret v)) s')
   (fun e s'=>GoodWG Tm.row.toRowW.claim (classAt s₀.heap) (ExcName.means s₀.heap) args s₁ (.error e) s') s₁:=by
 refine enter_call ?_
 obtain⟨ns,rfl,hlen⟩:=Fb hpre
 obtain⟨v,vs',rfl,y,z⟩:=wellAll_cons_inv hwl
 obtain rfl:vs'=[]:=by cases z;rfl
 obtain⟨sa,vs,rfl,hsa,hvs⟩:∃ sa vs,v=.ref sa∧s₁.heap.get? sa=some {cls:=.type "list",data:=.seq (List.toArray vs)}∧WellAll c.w.params s₁.heap vs (ns.map WData.int):=by
  cases y with
  |list h1 h2=>exact⟨_,_,rfl,h1,h2⟩
 let W:Wd:=⟨0,fun _=>0,fun b=>if b=sa then some {cls:=.type "list",data:=.seq (List.toArray vs)}else c.K.lookup b⟩
 have le:∀ b o,c.K.lookup b=some o→W.fz b=some o:=fun b o e=>by
  show(if b=sa then _ else _)=_
  by_cases q:b=sa
  ·subst q
   have:=X _ _ e
   rw[hsa]at this
   rw[if_pos rfl];exact this
  ·rw[if_neg q];exact e
 have nf1:∀ b o,s₁.heap.get? b=some o→iC b o=false:=fun b o e=>by
  have e0:[WData.list (ns.map WData.int)]=[ofPy (PyData.list (ns.map PyData.int))]:=by rw[ofPy,iT]
  have L':=L
  rw[e0]at L'
  exact JO L' nf e
 have R:Rel c.w.params W [] s₁.heap:=⟨rfl,fun _ _ v=>(wY v).elim,fun _ _ v=>(wY v).elim,fun _ _ _ _ v=>(wY v).elim,fun b o e=>by
  have e:(if b=sa then some {cls:=.type "list",data:=.seq (List.toArray vs)}else c.K.lookup b)=some o:=e
  by_cases q:b=sa
  ·rw[if_pos q]at e;rw[q,hsa];exact e
  ·rw[if_neg q]at e;exact X _ _ e,fun b o e=>by
  have e:(if b=sa then some {cls:=.type "list",data:=.seq (List.toArray vs)}else c.K.lookup b)=some o:=e
  by_cases q:b=sa
  ·rw[if_pos q]at e;cases e;exact kH rfl
  ·rw[if_neg q]at e;exact nf1 _ _ (X _ _ e)⟩
 have ht1:0<s₁.toks:=by
  have e:[WData.list (ns.map WData.int)]=[ofPy (PyData.list (ns.map PyData.int))]:=by rw[ofPy,iT]
  have L':=L
  rw[e]at L'
  exact Nat.lt_of_lt_of_le ht (PySem.W.X.script_toks L' rfl)
 have c1:callerA.depth≤301:=by decide+kernel
 have c2:callerA.units≤4:=by decide+kernel
 have Z:At c n callerA W [] s₁:=⟨⟨rfl,by omega,by omega⟩,R,le,ht1,.mk [] rfl fun _ m=>absurd m List.not_mem_nil⟩
 have hv:VRs c.w.params W [.dat (.lst (bQ ns))] [.ref sa]:=.mk (.mk sa vs 0 (if_pos rfl) (p0 hvs)) rfl
 have q:=(walk ns (by omega)).run callerA W s₁ _ _ .pos Z hv
 unfold Cx.M at q
 rw[hp]at q
 refine codeAny_mono q fun r s' ⟨u,p⟩=>?_
 obtain⟨W',R',E',x⟩:=p
 cases(show u=.bool true from x)
 have no:∀ b,¬ Live W [] b:=fun b=>Fc
 refine⟨.inl ⟨.bool true,.bool true,[],rfl,fun cls=>rfl,.bool _,?_,fun _=>⟨List.nodup_nil,fun _ h=>absurd h List.not_mem_nil⟩⟩,.of_keep fun b o e=>((E'.e.at_ b o e).keep (no b)).eqm (nf1 b o e),E'.o,?_⟩
 ·show(WShape.has [] (.bool true) .bool&&(WTm.eq .res (.lit (.bool true))).holds [] {args:=[.list (ns.map WData.int)],res:=some (.bool true),after:=[]})=true
  kernel_rfl
 ·have g:=E'.g
  rw[L.gens]at g
  exact fun y hy=>(Array.mem_iff_getElem?.mp hy).elim fun i e=>g.bare i y (Nat.zero_le _) e
theorem OP:(OpenRow.toRowW PySem.Challenge.rw_te0044_01.row).promised:=⟨[.list [.int 3]],by decide+kernel,by decide+kernel⟩
theorem JP (as bs:List Nat)(s:Shared):kT (as++bs) s=kT as s++kT bs s:=List.filterMap_append
theorem OQ (P:Params)(K2:Frag):lC PySem.Challenge.rw_te0044_01.row.name (nsE (KK P K2) 3).toList=some (.ref 827):=by kernel_rfl
noncomputable def n8:DefRec×List (Str×Expr):=(defOf Jn PySem.Challenge.rw_te0044_01.row.name).getD (⟨st [],⟨[],[],none,[],[],none,[]⟩,[],default,fC⟩,[])
theorem Te:defOf Jn PySem.Challenge.rw_te0044_01.row.name=some (n8.1,n8.2):=by kernel_rfl
theorem Tf:PySem.Challenge.rw_te0044_01.row.prog.theDef PySem.Challenge.rw_te0044_01.row.name=some (n8.1.params,n8.1.body,n8.1.scope):=by kernel_rfl
theorem WB:kwWritten? n8.1.params.kwonlyargs n8.1.params.kw_defaults=some n8.2:=by kernel_rfl
theorem WC:n8.1.name=PySem.Challenge.rw_te0044_01.row.name:=by kernel_rfl
theorem OS {s:Shared}(h:((kT kW s).all fun x=> !iC x.1 x.2)=true)(hs:s.heap.objs.size≤900):∀ b o,s.heap.get? b=some o→iC b o=false:=fun b o e=>by
 have lt:b<900:=Nat.lt_of_lt_of_le (Heap.lt_size e) hs
 have m:(b,o)∈kT kW s:=List.mem_filterMap.mpr ⟨b,List.mem_range.mpr lt,by rw[e];rfl⟩
 have:=List.all_eq_true.mp h _ m
 cases w:iC b o with
 |false=>rfl
 |true=>rw[show iC (b,o).1 (b,o).2=true from w]at this;cases this
theorem join01:PySem.Challenge.rw_te0044_01.Holds:=by
 refine holds_law MW fun said=>?_
 refine holds_openX (r:=PySem.Challenge.rw_te0044_01.row) (q:=Jn) (loose:=hI) (Xt:=fun _=>true) (XP:=fun _ _=>True) (Yf:=fun s=>yG (kT Cv s) (kT kW s) s.toks s.heap.objs.size) (Ya:=qW) (d:=n8.1) (kwd:=n8.2) (N:=20000) MU (fun _ _=>trivial) (fun _ _ _ _ _=>trivial) Te Tf WB (fun s _=>recFacts_of rfl) rfl said (by decide+kernel) ⟨rfl,rfl,rfl,rfl,rfl,by decide+kernel⟩ OP ?_
 intro w s₀ s₁ mg mb G Y fa o pm cd doc dV kV ho hd hcd hD hmg hg args vals as L hpre hlay hrd hwl hlo
 have hK:kT Cv s₀=Uj w.params:=congrArg (·.1) Y
 have hC:uD (kT kW s₀):=congrArg (·.2.1) Y
 have hB:JG (kT kW s₀):=congrArg (·.2.2.1) Y
 have ht:0<s₀.toks:=Nat.le_of_ble_eq_true (congrArg (·.2.2.2.1) Y)
 have hF:=Bool.and_eq_true_iff.mp (show((kT kW s₀).all (fun x=> !iC x.1 x.2)&&Nat.ble s₀.heap.objs.size 900)=true from congrArg (·.2.2.2.2) Y)
 have X:(KK w.params (kT kW s₀)).In s₁.heap:=fun b o e=>by
  rw[KK,← hK,← JP]at e
  exact L.keeps _ _ (MQ e)
 have hfa:fa=827:=by
  obtain⟨o',es',ep',b1,b2,b3,b4⟩:=G.T.g
  have e:=X _ _ (zL w.params (kT kW s₀))
  rw[b1]at e
  cases e
  cases b2
  have y:=(b4 PySem.Challenge.rw_te0044_01.row.name).symm.trans (lB (OQ w.params (kT kW s₀)))
  rw[WC]at hmg
  exact Value.ref.inj (Option.some.inj (hmg.symm.trans y))
 subst hfa
 exact Fe (n:=14) (c:=Zc.c (p:=iU) (G:=lV) (tl:=Hr) ⟨w,KK w.params (kT kW s₀),JM hB,Ny hC⟩) rfl L hpre hwl X (OS hF.1 (Nat.le_of_ble_eq_true hF.2)) ht (by decide) fun ns hn=>FP (Nz hC) (ON _ _) hn
end
end Tk
theorem PySem.Challenge.cw_te0044_01_holds : PySem.Challenge.rw_te0044_01.Holds :=
  Tk.join01
