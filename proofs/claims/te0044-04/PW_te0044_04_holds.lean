import PyProof.Rows.All
import KE.KOwnIter
import Wide.FinOn
import OpenK.AllK
import Wide.All
import Lean
import PySem.Challenge.RW_te0044_04
set_option Elab.async false
set_option linter.all false
set_option autoImplicit false
set_option maxRecDepth 100000
set_option maxHeartbeats 8000000
set_option genSizeOf false
set_option genInjectivity false
set_option genCtorIdx false
namespace Tk
open PySem PySem.W PyProof.Rows PySem.Calls
section
noncomputable abbrev Nm:=List Nat
noncomputable abbrev Ui:List Nat:=[101,120,112,101,99,116,101,100,45,115,112,97,99,101,45,111,114,45,114,105,103,104,116,45,98,114,97,99,107,101,116,45,105,110,45,100,111,99,116,121,112,101]
noncomputable abbrev Uj:List Nat:=[101,120,112,101,99,116,101,100,45,100,97,115,104,101,115,45,111,114,45,100,111,99,116,121,112,101]
noncomputable abbrev Uk:List Nat:=[117,110,101,120,112,101,99,116,101,100,45,99,104,97,114,45,105,110,45,100,111,99,116,121,112,101]
noncomputable abbrev Ul:List Nat:=[105,110,118,97,108,105,100,45,99,111,100,101,112,111,105,110,116]
noncomputable abbrev Um:List Nat:=[101,111,102,45,105,110,45,100,111,99,116,121,112,101]
noncomputable abbrev Un:List Nat:=[117,110,101,120,112,101,99,116,101,100,45,101,110,100,45,111,102,45,100,111,99,116,121,112,101]
noncomputable abbrev Uo:List Nat:=[101,120,112,101,99,116,101,100,45,100,111,99,116,121,112,101,45,110,97,109,101,45,98,117,116,45,103,111,116,45,101,111,102]
noncomputable abbrev Up:List Nat:=[117,110,101,120,112,101,99,116,101,100,45,100,97,115,104,45,97,102,116,101,114,45,100,111,117,98,108,101,45,100,97,115,104,45,105,110,45,99,111,109,109,101,110,116]
noncomputable abbrev Uq:List Nat:=[117,110,101,120,112,101,99,116,101,100,45,98,97,110,103,45,97,102,116,101,114,45,100,111,117,98,108,101,45,100,97,115,104,45,105,110,45,99,111,109,109,101,110,116]
noncomputable abbrev Ur:List Nat:=[101,120,112,101,99,116,101,100,45,99,108,111,115,105,110,103,45,116,97,103,45,98,117,116,45,103,111,116,45,114,105,103,104,116,45,98,114,97,99,107,101,116]
noncomputable abbrev Us:List Nat:=[101,120,112,101,99,116,101,100,45,116,97,103,45,110,97,109,101,45,98,117,116,45,103,111,116,45,113,117,101,115,116,105,111,110,45,109,97,114,107]
noncomputable abbrev Ut:List Nat:=[101,120,112,101,99,116,101,100,45,116,97,103,45,110,97,109,101,45,98,117,116,45,103,111,116,45,114,105,103,104,116,45,98,114,97,99,107,101,116]
noncomputable abbrev Uu:List Nat:=[101,120,112,101,99,116,101,100,45,116,97,103,45,110,97,109,101]
noncomputable abbrev Uv:List Nat:=[101,120,112,101,99,116,101,100,45,99,108,111,115,105,110,103,45,116,97,103,45,98,117,116,45,103,111,116,45,99,104,97,114]
noncomputable abbrev Uw:List Nat:=[101,120,112,101,99,116,101,100,45,99,108,111,115,105,110,103,45,116,97,103,45,98,117,116,45,103,111,116,45,101,111,102]
noncomputable abbrev Ux:List Nat:=[101,111,102,45,105,110,45,99,111,109,109,101,110,116,45,101,110,100,45,98,97,110,103,45,115,116,97,116,101]
noncomputable abbrev Uy:List Nat:=[101,111,102,45,105,110,45,99,111,109,109,101,110,116]
noncomputable abbrev Uz:List Nat:=[0,1,2,3,4,5,10]
noncomputable abbrev VA:List Nat:=[101,111,102,45,105,110,45,99,111,109,109,101,110,116,45,100,111,117,98,108,101,45,100,97,115,104]
noncomputable abbrev VB:List Nat:=[117,110,101,120,112,101,99,116,101,100,45,99,104,97,114,45,105,110,45,99,111,109,109,101,110,116]
noncomputable abbrev VC:List Nat:=[105,110,99,111,114,114,101,99,116,45,99,111,109,109,101,110,116]
noncomputable abbrev VD:List Nat:=[110,101,101,100,45,115,112,97,99,101,45,97,102,116,101,114,45,100,111,99,116,121,112,101]
noncomputable abbrev VE:List Nat:=[101,111,102,45,105,110,45,99,111,109,109,101,110,116,45,101,110,100,45,100,97,115,104]
noncomputable abbrev VF:List Nat:=[114,101,112,111,114,116,67,104,97,114,97,99,116,101,114,69,114,114,111,114,115]
noncomputable abbrev VG:List Nat:=[101,111,102,45,105,110,45,100,111,99,116,121,112,101,45,110,97,109,101]
noncomputable abbrev VH:List Nat:=[95,98,117,102,102,101,114,101,100,67,104,97,114,97,99,116,101,114]
noncomputable abbrev VI:List Nat:=[95,95,105,110,105,116,95,95]
noncomputable abbrev VJ:List Nat:=[108,97,115,116,70,111,117,114,67,104,97,114,115]
noncomputable abbrev VK:List Nat:=[112,114,101,118,78,117,109,76,105,110,101,115]
noncomputable abbrev VL:List Nat:=[99,117,114,114,101,110,116,84,111,107,101,110]
theorem an {a b:Prop}(x:a)(y:b):a∧b:=⟨x,y⟩
noncomputable def st (x:Nm):Str:=⟨x.toArray⟩
theorem sW {x y:Nm}(h:st x=st y):x=y:=congrArg (fun s:Str=>s.cps.toList) h
inductive D where
 |non|boo (b:Bool)|int (i:Int)|str (s:List Nat)
 |tup (xs:List D)|lst (xs:List D)|dct (es:List (Nm×D))
inductive V where
 |dat (d:D)|ref (l:Nat)|top (a:Nat)|blt (id:String)|typ (n:String)|rng (a b:Int)|mth (f l:Nat)
inductive O where
 |gone|lst (xs:List V)|tup (xs:List V)|ns (es:List (Nm×V))|fr (es:List (Nm×V))|cel (v:Option V)
 |ins (c d:Nat)
noncomputable def O.live:O→Bool
 |.gone=>false
 |_=>true
inductive Two {α:Type} (p:α→Prop) (q:List α→Prop):List α→Prop
 |mk {a:α} {l:List α} (h:p a) (r:q l):Two p q (a::l)
noncomputable def R2 {α β:Type}(R:α→β→Prop):List α→List β→Prop
 | [],ys=>ys=[]
 |x::xs,ys=>Two (R x) (R2 R xs) ys
section
variable {α β:Type}{R S:α→β→Prop}
theorem R2.imp (h:∀ a b,R a b→S a b):∀ {xs:List α} {ys:List β},R2 R xs ys→R2 S xs ys
 | [],_,x=>x
 |_::_,_,.mk a r=>.mk (h _ _ a) (R2.imp h r)
theorem R2.len:∀ {xs:List α} {ys:List β},R2 R xs ys→ys.length=xs.length
 | [],_,x=>congrArg List.length (show _=[]from x)
 |_::_,_,.mk _ r=>congrArg (· +1) (R2.len r)
theorem R2.app:∀ {xs xs':List α} {ys ys':List β},R2 R xs ys→R2 R xs' ys'→R2 R (xs++xs') (ys++ys')
 | [],_,_,_,x,y=>(show _=[]from x)▸y
 |_::_,_,_,_,.mk a r,y=>.mk a (R2.app r y)
theorem R2.drop:∀ (n:Nat) {xs:List α} {ys:List β},R2 R xs ys→R2 R (xs.drop n) (ys.drop n)
 |0,_,_,h=>h
 |_+1,[],_,h=>(show _=[]from h)▸rfl
 |n+1,_::_,_,.mk _ r=>R2.drop n r
theorem R2.take:∀ (n:Nat) {xs:List α} {ys:List β},R2 R xs ys→R2 R (xs.take n) (ys.take n)
 |0,_,_,_=>rfl
 |_+1,[],_,h=>(show _=[]from h)▸rfl
 |n+1,_::_,_,.mk a r=>.mk a (R2.take n r)
theorem R2.at:∀ {xs:List α} {ys:List β} {i:Nat} {x:α},R2 R xs ys→xs[i]? =some x→∃ y,ys[i]? =some y∧R x y
 | [],_,_,_,_,e=>nomatch e
 |_::_,_,0,_,.mk a _,e=>⟨_,rfl,Option.some.inj e▸a⟩
 |_::_,_,i+1,_,.mk _ r,e=>R2.at (i:=i) r e
theorem R2.set:∀ {xs:List α} {ys:List β} {i:Nat} {x:α} {y:β},R2 R xs ys→R x y→R2 R (xs.set i x) (ys.set i y)
 | [],_,_,_,_,h,_=>(show _=[]from h)▸rfl
 |_::_,_,0,_,_,.mk _ r,h=>.mk h r
 |_::_,_,_+1,_,_,.mk a r,h=>.mk a (R2.set r h)
theorem R2.one {x:α}{y:β}(h:R x y):R2 R [x] [y]:=.mk h rfl
theorem R2.map {γ:Type}{f:γ→α}:∀ {xs:List γ} {ys:List β},R2 (fun x=>R (f x)) xs ys→R2 R (xs.map f) ys
 | [],_,x=>x
 |_::_,_,.mk a r=>.mk a (R2.map r)
end
structure Wd where
 n:Nat
 ρ:Nat→Addr
 fz:Addr→Option Obj
structure Wd.le (W W':Wd):Prop where
 n:W.n≤W'.n
 ρ:∀ l,l<W.n→W'.ρ l=W.ρ l
 fz:∀ a o,W.fz a=some o→W'.fz a=some o
theorem Wd.le.refl (W:Wd):W.le W:=⟨Nat.le_refl _,fun _ _=>rfl,fun _ _ h=>h⟩
theorem Wd.le.trans {W W' W'':Wd}(x:W.le W')(y:W'.le W''):W.le W'':=⟨Nat.le_trans x.n y.n,fun l h=>(y.ρ l (Nat.lt_of_lt_of_le h x.n)).trans (x.ρ l h),fun a o e=>y.fz a o (x.fz a o e)⟩
inductive IsI (i:Int):Value→Prop|mk (t:Tok):IsI i (.int i t)
inductive IsS (x:Nm):Value→Prop|mk (t:Tok):IsS x (.str (st x) t)
inductive IsSeq (fz:Addr→Option Obj) (c:String) (R:List Value→Prop):Value→Prop
 |mk (a:Addr) (vs:List Value) (n:Nat) (f:fz a=some ⟨.type c,none,.seq vs.toArray n,#[]⟩) (d:R vs):IsSeq fz c R (.ref a)
inductive IsDct (fz:Addr→Option Obj) (R:List DictEntry→Prop):Value→Prop
 |mk (a:Addr) (en:List DictEntry) (n:Nat) (f:fz a=some ⟨.type "dict",none,.dict en.toArray n,#[]⟩) (d:R en):IsDct fz R (.ref a)
inductive Ent (P:Params) (x:Nm) (R:Value→Prop):DictEntry→Prop
 |mk (e:DictEntry) (t:Tok) (h:e.hash=PyData.keyHash P (st x)) (k:e.key=.str (st x) t) (r:R e.val):Ent P x R e
theorem Ent.imp {P:Params}{x:Nm}{R S:Value→Prop}{e:DictEntry}(h:∀ v,R v→S v):Ent P x R e→Ent P x S e
 |.mk _ t a k r=>.mk _ t a k (h _ r)
mutual
noncomputable def DR (P:Params)(fz:Addr→Option Obj):D→Value→Prop
 |.non,v=>v=.none
 |.boo b,v=>v=.bool b
 |.int i,v=>IsI i v
 |.str x,v=>IsS x v
 |.tup ds,v=>IsSeq fz "tuple" (DRs P fz ds) v
 |.lst ds,v=>IsSeq fz "list" (DRs P fz ds) v
 |.dct es,v=>IsDct fz (DRe P fz es) v
noncomputable def DRs (P:Params)(fz:Addr→Option Obj):List D→List Value→Prop
 | [],vs=>vs=[]
 |d::ds,vs=>Two (DR P fz d) (DRs P fz ds) vs
noncomputable def DRe (P:Params)(fz:Addr→Option Obj):List (Nm×D)→List DictEntry→Prop
 | [],en=>en=[]
 |(x,d)::es,en=>Two (Ent P x (DR P fz d)) (DRe P fz es) en
end
noncomputable abbrev EV (P:Params)(R:V→Value→Prop)(p:Nm×V)(e:DictEntry):Prop:=Ent P p.1 (R p.2) e
theorem DRs.r2 {P:Params}{fz:Addr→Option Obj}:∀ {ds:List D} {vs:List Value},DRs P fz ds vs↔R2 (DR P fz) ds vs
 | [],_=>.rfl
 |_::_,_=>⟨fun|.mk a r=>.mk a (DRs.r2.mp r),fun|.mk a r=>.mk a (DRs.r2.mpr r)⟩
variable (P:Params)
inductive IsM (W:Wd) (f l:Nat):Value→Prop
 |mk (a:Addr) (h:l<W.n) (z:W.fz a=some (methodObj (.ref f) (.ref (W.ρ l)))):IsM W f l (.ref a)
inductive IsR (fz:Addr→Option Obj) (x y:Int):Value→Prop
 |mk (a:Addr) (t t' t'':Tok) (z:fz a=some ⟨.type "range",none,.fields #[.int x t,.int y t',.int 1 t''],#[]⟩):IsR fz x y (.ref a)
noncomputable def VR (W:Wd):V→Value→Prop
 |.dat d,v=>DR P W.fz d v
 |.ref l,v=>l<W.n∧v=.ref (W.ρ l)
 |.top a,v=>v=.ref a
 |.blt i,v=>v=.builtin i
 |.typ n,v=>v=.type n
 |.rng x y,v=>IsR W.fz x y v
 |.mth f l,v=>IsM W f l v
noncomputable abbrev VRs (W:Wd):List V→List Value→Prop:=R2 (VR P W)
noncomputable abbrev ER (W:Wd):List (Nm×V)→List DictEntry→Prop:=R2 (EV P (VR P W))
inductive OSeq (c:String) (R:List Value→Prop):Obj→Prop
 |mk (vs:List Value) (n:Nat) (d:R vs):OSeq c R ⟨.type c,none,.seq vs.toArray n,#[]⟩
inductive ONs (R:List DictEntry→Prop):Obj→Prop
 |mk (en:List DictEntry) (n:Nat) (d:R en):ONs R ⟨.type "dict",none,.dict en.toArray n,#[]⟩
inductive OFr (R:List DictEntry→Prop):Obj→Prop
 |mk (c:String) (en:List DictEntry) (n:Nat) (d:R en):OFr R ⟨.type c,none,.dict en.toArray n,#[]⟩
inductive OCel (R:Option Value→Prop):Obj→Prop
 |mk (r:Option Value) (d:R r):OCel R ⟨.type "cell",none,.cell r,#[]⟩
inductive OIns (W:Wd) (c d:Nat):Obj→Prop
 |mk (h:d<W.n):OIns W c d ⟨.ref c,some (W.ρ d),.plain,#[]⟩
noncomputable def CR (R:V→Value→Prop):Option V→Option Value→Prop
 |none,none=>True
 |some x,some y=>R x y
 |_,_=>False
noncomputable def OR (W:Wd):O→Obj→Prop
 |.gone,_=>False
 |.lst xs,o=>OSeq "list" (VRs P W xs) o
 |.tup xs,o=>OSeq "tuple" (VRs P W xs) o
 |.ns es,o=>(es.map (·.1)).Nodup∧ONs (ER P W es) o
 |.fr es,o=>OFr (ER P W es) o
 |.cel v,o=>OCel (CR (VR P W) v) o
 |.ins c d,o=>OIns W c d o
variable {P}
theorem IsSeq.imp {fz fz':Addr→Option Obj}{c:String}{R S:List Value→Prop}{v:Value}(h:∀ a o,fz a=some o→fz' a=some o)(k:∀ vs,R vs→S vs):IsSeq fz c R v→IsSeq fz' c S v
 |.mk a vs n f d=>.mk a vs n (h _ _ f) (k _ d)
mutual
theorem DR.mono {fz fz':Addr→Option Obj}(h:∀ a o,fz a=some o→fz' a=some o):∀ {d:D} {v:Value},DR P fz d v→DR P fz' d v
 |.non,_,x=>x
 |.boo _,_,x=>x
 |.int _,_,x=>x
 |.str _,_,x=>x
 |.tup _,_,x=>IsSeq.imp h (fun _=>DRs.mono h) x
 |.lst _,_,x=>IsSeq.imp h (fun _=>DRs.mono h) x
 |.dct _,_,.mk a en n f d=>.mk a en n (h _ _ f) (DRe.mono h d)
theorem DRs.mono {fz fz':Addr→Option Obj}(h:∀ a o,fz a=some o→fz' a=some o):∀ {d:List D} {v:List Value},DRs P fz d v→DRs P fz' d v
 | [],_,x=>x
 |_::_,_,.mk a r=>.mk (DR.mono h a) (DRs.mono h r)
theorem DRe.mono {fz fz':Addr→Option Obj}(h:∀ a o,fz a=some o→fz' a=some o):∀ {d:List (Nm×D)} {v:List DictEntry},DRe P fz d v→DRe P fz' d v
 | [],_,x=>x
 |(_,_)::_,_,.mk a r=>.mk (a.imp fun _=>DR.mono h) (DRe.mono h r)
end
noncomputable def V.mp (r:Nat→V)(k:Nat→Nat):V→V
 |.ref l=>r l
 |.mth f l=>.mth f (k l)
 |v=>v
noncomputable def OL (r:Nat→V)(k:Nat→Nat):List (Nm×V)→List (Nm×V):=List.map fun x=>(x.1,x.2.mp r k)
noncomputable def O.mp (r:Nat→V)(k:Nat→Nat):O→O
 |.lst xs=>.lst (xs.map (V.mp r k))
 |.tup xs=>.tup (xs.map (V.mp r k))
 |.ns es=>.ns (OL r k es)
 |.fr es=>.fr (OL r k es)
 |.cel none=>.cel none
 |.cel (some v)=>.cel (some (v.mp r k))
 |.ins c d=>.ins c (k d)
 |.gone=>.gone
structure Mv (P:Params) (W W':Wd) (r:Nat→V) (k:Nat→Nat) (ok:Nat→Bool):Prop where
 r:∀ l,ok l=true→l<W.n→VR P W' (r l) (.ref (W.ρ l))
 lt:∀ l,ok l=true→l<W.n→k l<W'.n
 ρ:∀ l,ok l=true→l<W.n→W'.ρ (k l)=W.ρ l
 fz:∀ a o,W.fz a=some o→W'.fz a=some o
noncomputable abbrev V.ren (k:Nat→Nat):V→V:=V.mp (fun l=>.ref (k l)) k
noncomputable abbrev O.ren (k:Nat→Nat):O→O:=O.mp (fun l=>.ref (k l)) k
theorem Mv.ren {P:Params}{W W':Wd}{k:Nat→Nat}{ok:Nat→Bool}(lt:∀ l,ok l=true→l<W.n→k l<W'.n)(ρ:∀ l,ok l=true→l<W.n→W'.ρ (k l)=W.ρ l)(fz:∀ a o,W.fz a=some o→W'.fz a=some o):Mv P W W' (fun l=>.ref (k l)) k ok:=
 ⟨fun l c q=>⟨lt l c q,congrArg Value.ref (ρ l c q).symm⟩,lt,ρ,fz⟩
theorem Wd.le.mv {P:Params}{W W':Wd}(h:W.le W'):Mv P W W' .ref id fun _=>true:=.ren (fun _ _ q=>Nat.lt_of_lt_of_le q h.n) (fun l _ q=>h.ρ l q) h.fz
noncomputable def V.cl (ok:Nat→Bool):V→Bool
 |.ref l=>ok l
 |.mth _ l=>ok l
 |_=>true
noncomputable def O.cl (ok:Nat→Bool):O→Bool
 |.lst xs=>xs.all (V.cl ok)
 |.tup xs=>xs.all (V.cl ok)
 |.ns es=>es.all fun x=>x.2.cl ok
 |.fr es=>es.all fun x=>x.2.cl ok
 |.cel (some v)=>v.cl ok
 |.cel none=>true
 |.ins _ d=>ok d
 |.gone=>true
section
variable {W W':Wd}{r:Nat→V}{k:Nat→Nat}{ok:Nat→Bool}(M:Mv P W W' r k ok)
include M
theorem VR.go:∀ {v:V} {u:Value},v.cl ok=true→VR P W v u→VR P W' (v.mp r k) u
 |.dat _,_,_,x=>DR.mono M.fz x
 |.ref _,_,c,x=>x.2▸M.r _ c x.1
 |.top _,_,_,x=>x
 |.blt _,_,_,x=>x
 |.typ _,_,_,x=>x
 |.rng _ _,_,_,.mk a t t' t'' z=>.mk a t t' t'' (M.fz _ _ z)
 |.mth _ _,_,c,.mk a h z=>.mk a (M.lt _ c h) (by rw[M.ρ _ c h];exact M.fz _ _ z)
theorem VRs.go:∀ {v:List V} {u:List Value},v.all (V.cl ok)=true→VRs P W v u→VRs P W' (v.map (V.mp r k)) u
 | [],_,_,x=>x
 |_::_,_,c,.mk a r=>.mk (VR.go M (Bool.and_eq_true_iff.mp c).1 a) (VRs.go (Bool.and_eq_true_iff.mp c).2 r)
theorem ER.go:∀ {v:List (Nm×V)} {u:List DictEntry},(v.all fun x=>x.2.cl ok)=true→ER P W v u→ER P W' (OL r k v) u
 | [],_,_,x=>x
 |_::_,_,c,.mk a r=>.mk (a.imp fun _=>VR.go M (Bool.and_eq_true_iff.mp c).1) (ER.go (Bool.and_eq_true_iff.mp c).2 r)
theorem OR.go:∀ {o:O} {ob:Obj},o.cl ok=true→OR P W o ob→OR P W' (o.mp r k) ob
 |.gone,_,_,x=>x
 |.lst _,_,c,.mk vs n d=>.mk vs n (VRs.go M c d)
 |.tup _,_,c,.mk vs n d=>.mk vs n (VRs.go M c d)
 |.ns es,_,c,⟨nd,.mk en n d⟩=>⟨(List.map_map (l:=es)▸nd:_),.mk en n (ER.go M c d)⟩
 |.fr _,_,c,.mk q en n d=>.mk q en n (ER.go M c d)
 |.cel none,_,_,.mk r d=>.mk r (match r,d with|none,d=>d|some _,d=>d.elim)
 |.cel (some _),_,c,.mk r d=>.mk r (match r,d with|none,d=>d.elim|some _,d=>VR.go M c d)
 |.ins _ d,_,c,x=>match x with
  |.mk h=>(M.ρ d c h)▸OIns.mk (M.lt d c h)
end
theorem V.ren_id:∀ v:V,v.mp .ref id=v
 |.dat _|.ref _|.top _|.blt _|.typ _|.rng _ _|.mth _ _=>rfl
theorem V.cl_all:∀ v:V,v.cl (fun _=>true)=true
 |.dat _|.ref _|.top _|.blt _|.typ _|.rng _ _|.mth _ _=>rfl
theorem VR.mono {W W':Wd}(h:W.le W'){x:V}{v:Value}(q:VR P W x v):VR P W' x v:=V.ren_id x▸VR.go h.mv (V.cl_all x) q
theorem VRs.mono {W W':Wd}(h:W.le W'){x:List V}{v:List Value}:VRs P W x v→VRs P W' x v:=R2.imp fun _ _=>VR.mono h
theorem ER.mono {W W':Wd}(h:W.le W'){x:List (Nm×V)}{v:List DictEntry}:ER P W x v→ER P W' x v:=R2.imp fun _ _=>Ent.imp fun _=>VR.mono h
theorem OR.mono {W W':Wd}(h:W.le W'):∀ {o:O} {ob:Obj},OR P W o ob→OR P W' o ob
 |.gone,_,x=>x
 |.lst _,_,.mk vs n d=>.mk vs n (VRs.mono h d)
 |.tup _,_,.mk vs n d=>.mk vs n (VRs.mono h d)
 |.ns _,_,⟨nd,.mk en n d⟩=>⟨nd,.mk en n (ER.mono h d)⟩
 |.fr _,_,.mk q en n d=>.mk q en n (ER.mono h d)
 |.cel none,_,.mk r d=>.mk r (match r,d with|none,d=>d|some _,d=>d.elim)
 |.cel (some _),_,.mk r d=>.mk r (match r,d with|none,d=>d.elim|some _,d=>VR.mono h d)
 |.ins _ d,_,x=>match x with
  |.mk q=>(h.ρ d q)▸OIns.mk (Nat.lt_of_lt_of_le q h.n)
theorem OR.free {W:Wd}:∀ {x:O} {o:Obj},OR P W x o→o.isFreed=false
 |.gone,_,x=>x.elim
 |.lst _,_,.mk .. =>rfl
 |.tup _,_,.mk .. =>rfl
 |.ns _,_,⟨_,.mk ..⟩=>rfl
 |.fr _,_,.mk .. =>rfl
 |.cel _,_,.mk .. =>rfl
 |.ins ..,_,.mk _=>rfl
end
section
theorem nT {α:Type}{x:Option α}{o:α}(e:x=some o)(n:x=none):False:=nomatch e.symm.trans n
structure Lv (hp:List O) (l:Nat) (o:O):Prop where
 e:hp[l]? =some o
 v:o.live=true
theorem Lv.lt {hp:List O}{l:Nat}{o:O}(x:Lv hp l o):l<hp.length:=(List.getElem?_eq_some_iff.mp x.e).1
inductive Got (h:Heap) (a:Addr) (R:Obj→Prop):Prop
 |mk (ob:Obj) (g:h.get? a=some ob) (r:R ob)
theorem Got.imp {h h':Heap}{a:Addr}{R S:Obj→Prop}(x:Got h a R)(f:∀ o,h.get? a=some o→h'.get? a=some o)(k:∀ o,R o→S o):Got h' a S:=match x with
 |.mk ob g r=>.mk ob (f _ g) (k _ r)
inductive GSeq (h:Heap) (a:Addr) (c:String) (R:List Value→Prop):Prop
 |mk (vs:List Value) (n:Nat) (g:h.get? a=some ⟨.type c,none,.seq vs.toArray n,#[]⟩) (d:R vs)
inductive GFr (h:Heap) (a:Addr) (R:List DictEntry→Prop):Prop
 |mk (c:String) (en:List DictEntry) (n:Nat) (g:h.get? a=some ⟨.type c,none,.dict en.toArray n,#[]⟩) (d:R en)
inductive GNs (h:Heap) (a:Addr) (R:List DictEntry→Prop) (p:Prop):Prop
 |mk (en:List DictEntry) (n:Nat) (g:h.get? a=some ⟨.type "dict",none,.dict en.toArray n,#[]⟩) (d:R en) (nd:p)
inductive GCel (h:Heap) (a:Addr) (R:Option Value→Prop):Prop
 |mk (r:Option Value) (g:h.get? a=some ⟨.type "cell",none,.cell r,#[]⟩) (d:R r)
structure Rel (P:Params) (W:Wd) (hp:List O) (h:Heap):Prop where
 len:W.n=hp.length
 obj:∀ l o,Lv hp l o→Got h (W.ρ l) (OR P W o)
 cold:∀ l o,Lv hp l o→W.fz (W.ρ l)=none
 inj:∀ l l' o o',Lv hp l o→Lv hp l' o'→W.ρ l=W.ρ l'→l=l'
 fz:∀ a o,W.fz a=some o→h.get? a=some o
inductive Live (W:Wd) (hp:List O) (a:Addr):Prop
 |mk (l:Nat) (o:O) (v:Lv hp l o) (e:W.ρ l=a)
structure Ex (W:Wd) (hp:List O) (W':Wd) (hp':List O) (h':Heap) (a:Addr) (o:Obj):Prop where
 keep:¬ Live W hp a→h'.get? a=some o
 live:Live W' hp' a→Live W hp a
 ex:∃ o',h'.get? a=some o'
 cool:∀ o',W'.fz a=some o'→W.fz a=some o'∨Live W hp a
structure Ext (W:Wd) (hp:List O) (h:Heap) (W':Wd) (hp':List O) (h':Heap):Prop where
 le:W.le W'
 at_:∀ a o,h.get? a=some o→Ex W hp W' hp' h' a o
section
variable {P:Params}{W W' W'':Wd}{hp hp' hp'':List O}{h h' h'':Heap}
theorem Ext.refl (W:Wd)(hp:List O)(h:Heap):Ext W hp h W hp h:=⟨.refl W,fun _ o e=>⟨fun _=>e,id,⟨o,e⟩,fun _=>.inl⟩⟩
theorem Ext.trans (x:Ext W hp h W' hp' h')(y:Ext W' hp' h' W'' hp'' h''):Ext W hp h W'' hp'' h'':=
 ⟨x.le.trans y.le,fun a o e=>let X:=x.at_ a o e;X.ex.elim fun o1 e1=>let Y:=y.at_ a o1 e1
  ⟨fun n=>(y.at_ a o (X.keep n)).keep fun l=>n (X.live l),fun l=>X.live (Y.live l),Y.ex,fun o' f=>(Y.cool o' f).elim (X.cool o') fun l=>.inr (X.live l)⟩⟩
theorem Rel.lt (R:Rel P W hp h){l:Nat}{o:O}(x:Lv hp l o):l<W.n:=R.len▸x.lt
theorem Rel.lst (R:Rel P W hp h){l:Nat}{xs:List V}(v:Lv hp l (.lst xs)):GSeq h (W.ρ l) "list" (VRs P W xs):=match R.obj _ _ v with
 |.mk ob g r=>match ob,(r:OSeq "list" (VRs P W xs) ob),g with|_,.mk vs n d,g=>.mk vs n g d
theorem Rel.tup (R:Rel P W hp h){l:Nat}{xs:List V}(v:Lv hp l (.tup xs)):GSeq h (W.ρ l) "tuple" (VRs P W xs):=match R.obj _ _ v with
 |.mk ob g r=>match ob,(r:OSeq "tuple" (VRs P W xs) ob),g with|_,.mk vs n d,g=>.mk vs n g d
theorem Rel.fr (R:Rel P W hp h){l:Nat}{es:List (Nm×V)}(v:Lv hp l (.fr es)):GFr h (W.ρ l) (ER P W es):=match R.obj _ _ v with
 |.mk ob g r=>match ob,(r:OFr (ER P W es) ob),g with|_,.mk c en n d,g=>.mk c en n g d
theorem Rel.ns (R:Rel P W hp h){l:Nat}{es:List (Nm×V)}(v:Lv hp l (.ns es)):GNs h (W.ρ l) (ER P W es) (es.map (·.1)).Nodup:=match R.obj _ _ v with
 |.mk ob g r=>match ob,(r.2:ONs (ER P W es) ob),g with|_,.mk en n d,g=>.mk en n g d r.1
theorem Rel.cel (R:Rel P W hp h){l:Nat}{x:Option V}(v:Lv hp l (.cel x)):GCel h (W.ρ l) (CR (VR P W) x):=match R.obj _ _ v with
 |.mk ob g r=>match ob,(r:OCel (CR (VR P W) x) ob),g with|_,.mk r d,g=>.mk r g d
theorem Rel.ins (R:Rel P W hp h){l c d:Nat}(v:Lv hp l (.ins c d)):h.get? (W.ρ l)=some ⟨.ref c,some (W.ρ d),.plain,#[]⟩∧d<W.n:=match R.obj _ _ v with
 |.mk ob g r=>match ob,(r:OIns W c d ob),g with|_,.mk q,g=>⟨g,q⟩
inductive From (P:Params) (W:Wd) (hp:List O) (h':Heap) (W':Wd) (k l:Nat) (o':O):Prop
 |mk (o:O) (v:Lv hp k o) (e:W'.ρ l=W.ρ k) (g:Got h' (W.ρ k) (OR P W' o')) (z:W'.fz (W.ρ k)=none)
theorem Rel.via (R:Rel P W hp h){k:Nat→Nat}(len:W'.n=hp'.length)(fz:∀ a o,W'.fz a=some o→h'.get? a=some o)(pk:∀ l o',Lv hp' l o'→From P W hp h' W' (k l) l o')(ki:∀ l l',l<W'.n→l'<W'.n→k l=k l'→l=l'):Rel P W' hp' h':=
 ⟨len,fun l o v=>match pk l o v with|.mk _ _ e g _=>e▸g,fun l o v=>match pk l o v with|.mk _ _ e _ z=>e▸z,
  fun l l' o o' v v' e=>match pk l o v,pk l' o' v' with|.mk a va ea _ _,.mk b vb eb _ _=>ki l l' (len▸v.lt) (len▸v'.lt) (R.inj _ _ a b va vb (ea.symm.trans (e.trans eb))),fz⟩
theorem From.live {k:Nat→Nat}(pk:∀ l o',Lv hp' l o'→From P W hp h' W' (k l) l o'){a:Addr}(x:Live W' hp' a):Live W hp a:=match x with
 |.mk l o v e=>match pk l o v with|.mk o' v' e' _ _=>.mk _ o' v' (e'.symm.trans e)
theorem Lv.set {l k:Nat}{o' o1:O}(x:Lv (hp.set l o') k o1):(k=l∧o1=o')∨(k≠l∧Lv hp k o1):=by
 by_cases q:k=l
 ·subst q;exact .inl ⟨rfl,Option.some.inj (x.e.symm.trans (List.getElem?_set_self (by simpa using x.lt)))⟩
 ·exact .inr ⟨q,(List.getElem?_set_ne (Ne.symm q)).symm.trans x.e,x.v⟩
theorem Rel.change (R:Rel P W hp h){l:Nat}{o o':O}(v:Lv hp l o)(hs:∀ b,b≠W.ρ l→h'.get? b=h.get? b)(g:Got h' (W.ρ l) (OR P W o')):Rel P W (hp.set l o') h'∧Ext W hp h W (hp.set l o') h':=
 have pk:∀ k o1,Lv (hp.set l o') k o1→From P W hp h' W (id k) k o1:=fun k o1 x=>match x.set with
  |.inl ⟨e,e'⟩=>e▸e' ▸ .mk o v rfl g (R.cold _ _ v)
  |.inr ⟨n,y⟩=>.mk o1 y rfl ((R.obj _ _ y).imp (fun _ e=>(hs _ fun q=>n (R.inj _ _ _ _ y v q)).trans e) fun _=>id) (R.cold _ _ y)
 have other:∀ a o,h.get? a=some o→a≠W.ρ l→h'.get? a=some o:=fun a _ e n=>(hs a n).trans e
 ⟨R.via (k:=id) (by rw[R.len,List.length_set]) (fun a _ e=>other a _ (R.fz a _ e) fun q=>nT (q▸e) (R.cold _ _ v)) pk fun _ _ _ _=>id,
  .refl W,fun a o1 e=>⟨fun n=>other a o1 e fun q=>n (.mk l o v q.symm),From.live pk,(Classical.em (a=W.ρ l)).elim (fun q=>match g with|.mk ob g _=>⟨ob,q▸g⟩) fun q=>⟨o1,other a o1 e q⟩,fun _=>.inl⟩⟩
theorem Rel.update (R:Rel P W hp h){l:Nat}{o o':O}{f:Obj→Obj}{ob:Obj}(v:Lv hp l o)(hb:h.get? (W.ρ l)=some ob)(ho:OR P W o' (f ob)):Rel P W (hp.set l o') (h.update (W.ρ l) f)∧Ext W hp h W (hp.set l o') (h.update (W.ρ l) f):=
 R.change v (fun _ n=>Heap.get?_update_other h f (Ne.symm n)) (.mk _ (Heap.get?_update_self f hb ho.free) ho)
theorem Rel.forget (R:Rel P W hp h)(l:Nat):Rel P W (hp.set l .gone) h∧Ext W hp h W (hp.set l .gone) h:=
 have pk:∀ k o1,Lv (hp.set l .gone) k o1→From P W hp h W (id k) k o1:=fun k o1 x=>match x.set with
  |.inl ⟨_,e'⟩=>nomatch (e'▸x.v:O.live .gone=true)
  |.inr ⟨_,y⟩=>.mk o1 y rfl (R.obj _ _ y) (R.cold _ _ y)
 ⟨R.via (k:=id) (by rw[R.len,List.length_set]) R.fz pk fun _ _ _ _=>id,.refl W,fun _ o1 e=>⟨fun _=>e,From.live pk,⟨o1,e⟩,fun _=>.inl⟩⟩
theorem Rel.poke {a:Addr}(R:Rel P W hp h)(hl:¬ Live W hp a)(hz:W.fz a=none)(hk:∀ b o,b≠a→h.get? b=some o→h'.get? b=some o):Rel P W hp h':=
 R.via (k:=id) R.len (fun b o e=>hk b o (fun q=>nT (q▸e) hz) (R.fz b o e)) (fun _ o v=>.mk o v rfl ((R.obj _ _ v).imp (fun ob=>hk _ ob fun q=>hl (.mk _ o v q)) fun _=>id) (R.cold _ _ v)) fun _ _ _ _=>id
theorem Ext.poke {a:Addr}(E:Ext W hp h W' hp' h')(ha:h.get? a=none)(hk:∀ b o,b≠a→h'.get? b=some o→h''.get? b=some o):Ext W hp h W' hp' h'':=
 ⟨E.le,fun b o e=>let X:=E.at_ b o e;have ne:b≠a:=fun q=>nT (q▸e) ha;⟨fun n=>hk b o ne (X.keep n),X.live,X.ex.elim fun o' e'=>⟨o',hk b o' ne e'⟩,X.cool⟩⟩
noncomputable def Wd.push (W:Wd)(a:Addr):Wd:=⟨W.n+1,fun l=>if l=W.n then a else W.ρ l,W.fz⟩
noncomputable def Wd.freeze (W:Wd)(a:Addr)(o:Obj):Wd:=⟨W.n,W.ρ,fun b=>if b=a then some o else W.fz b⟩
theorem Wd.le_push (W:Wd)(a:Addr):W.le (W.push a):=⟨Nat.le_succ _,fun _ q=>if_neg (Nat.ne_of_lt q),fun _ _=>id⟩
theorem Wd.fz_freeze {W:Wd}{a b:Addr}{o o':Obj}(z:W.fz a=none)(e:W.fz b=some o'):(W.freeze a o).fz b=some o':=(if_neg fun q=>nT (q▸e) z).trans e
theorem Wd.le_freeze {W:Wd}{a:Addr}{o:Obj}(z:W.fz a=none):W.le (W.freeze a o):=⟨Nat.le_refl _,fun _ _=>rfl,fun _ _=>fz_freeze z⟩
theorem Rel.new_cold (R:Rel P W hp h):W.fz h.objs.size=none:=match e:W.fz h.objs.size with
 |none=>rfl
 |some o=>absurd (Heap.lt_size (R.fz _ o e)) (Nat.lt_irrefl _)
theorem Rel.new_live (R:Rel P W hp h):¬ Live W hp h.objs.size:=fun|.mk l o v e=>match R.obj l o v with|.mk _ g _=>absurd (Heap.lt_size (e▸g)) (Nat.lt_irrefl _)
theorem Rel.push_at (R:Rel P W hp h)(a:Addr):(W.push a).ρ hp.length=a:=if_pos R.len.symm
theorem Lv.push {l:Nat}{o o':O}(x:Lv (hp++[o]) l o'):(l=hp.length∧o'=o)∨(l<hp.length∧Lv hp l o'):=by
 by_cases q:l<hp.length
 ·exact .inr ⟨q,(List.getElem?_append_left q).symm.trans x.e,x.v⟩
 ·have:=x.lt
  obtain rfl:l=hp.length:=by rw[List.length_append]at this;exact Nat.le_antisymm (Nat.le_of_lt_succ this) (Nat.le_of_not_lt q)
  exact .inl ⟨rfl,Option.some.inj (x.e.symm.trans List.getElem?_concat_length)⟩
theorem Rel.alloc (R:Rel P W hp h){o:O}{ob:Obj}(ho:OR P (W.push h.objs.size) o ob):
  Rel P (W.push h.objs.size) (hp++[o]) (h.push ob)∧Ext W hp h (W.push h.objs.size) (hp++[o]) (h.push ob):=
 have le:=Wd.le_push W h.objs.size
 have old:∀ l,l<hp.length→(W.push h.objs.size).ρ l=W.ρ l:=fun l q=>le.ρ l (R.len▸q)
 have far:∀ l o1,l<hp.length→Lv hp l o1→W.ρ l≠h.objs.size:=fun l o1 _ v e=>R.new_live (.mk l o1 v e)
 ⟨⟨by rw[List.length_append,← R.len];rfl,
  fun l o1 v=>match v.push with
   |.inl ⟨e,e'⟩=>e▸e' ▸ (R.push_at _).symm ▸ .mk ob (Heap.get?_push_size _ ho.free) ho
   |.inr ⟨q,y⟩=>(old l q).symm ▸ (R.obj _ _ y).imp (fun _=>Heap.get?_push_of_some _) fun _=>OR.mono le,
  fun l o1 v=>match v.push with
   |.inl ⟨e,_⟩=>e ▸ (R.push_at _).symm▸R.new_cold
   |.inr ⟨q,y⟩=>(old l q).symm▸R.cold _ _ y,
  fun l l' o1 o2 v v' e=>match v.push,v'.push with
   |.inl ⟨a,_⟩,.inl ⟨b,_⟩=>a.trans b.symm
   |.inl ⟨a,_⟩,.inr ⟨q,y⟩=>absurd (((old l' q).symm.trans e.symm).trans (a▸R.push_at _)) (far l' _ q y)
   |.inr ⟨q,y⟩,.inl ⟨a,_⟩=>absurd (((old l q).symm.trans e).trans (a▸R.push_at _)) (far l _ q y)
   |.inr ⟨q,y⟩,.inr ⟨q',y'⟩=>R.inj _ _ _ _ y y' ((old l q).symm.trans (e.trans (old l' q'))),
  fun a o1 e=>Heap.get?_push_of_some _ (R.fz a o1 e)⟩,
  le,fun a o1 e=>⟨fun _=>Heap.get?_push_of_some _ e,fun|.mk l o2 v q=>match v.push with
   |.inl ⟨a,_⟩=>absurd (Heap.lt_size e) (by rw[← q,a,R.push_at];exact Nat.lt_irrefl _)
   |.inr ⟨q',y⟩=>.mk l o2 y ((old l q').symm.trans q),⟨o1,Heap.get?_push_of_some _ e⟩,fun _=>.inl⟩⟩
theorem Rel.allocZ (R:Rel P W hp h){ob:Obj}(hf:ob.isFreed=false):
  Rel P (W.freeze h.objs.size ob) hp (h.push ob)∧Ext W hp h (W.freeze h.objs.size ob) hp (h.push ob):=
 have le:=Wd.le_freeze (o:=ob) R.new_cold
 have pk:∀ l o1,Lv hp l o1→From P W hp (h.push ob) (W.freeze h.objs.size ob) (id l) l o1:=fun l o1 v=>.mk o1 v rfl ((R.obj _ _ v).imp (fun _=>Heap.get?_push_of_some _) fun _=>OR.mono le)
  ((if_neg fun q=>R.new_live (.mk l o1 v q)).trans (R.cold _ _ v))
 ⟨R.via (k:=id) R.len (fun a o1 e=>by
  by_cases q:a=h.objs.size
  ·subst q;rw[← Option.some.inj ((if_pos rfl).symm.trans e)];exact Heap.get?_push_size _ hf
  ·exact Heap.get?_push_of_some _ (R.fz _ _ ((if_neg q).symm.trans e))) pk fun _ _ _ _=>id,
  le,fun a o1 e=>⟨fun _=>Heap.get?_push_of_some _ e,From.live pk,⟨o1,Heap.get?_push_of_some _ e⟩,fun _ f=>.inl ((if_neg (Nat.ne_of_lt (Heap.lt_size e))).symm.trans f)⟩⟩
end
end
section
noncomputable def V.dt:V→Option D
 |.dat d=>some d
 |_=>none
theorem V.dt_eq:∀ {v:V} {d:D},v.dt=some d→v=.dat d
 |.dat _,_,e=>congrArg V.dat (Option.some.inj e)
noncomputable def n8:List V→Option (List D)
 | []=>some []
 |v::r=>v.dt.bind fun d=>(n8 r).map (d::·)
noncomputable def KT:List (Nm×V)→Option (List (Nm×D))
 | []=>some []
 |x::r=>x.2.dt.bind fun d=>(KT r).map ((x.1,d)::·)
theorem c9 {α β:Type}{f:α→β}{x:Option α}{y:β}(h:x.map f=some y):∃ z,x=some z∧f z=y:=Option.map_eq_some_iff.mp h
theorem bS {α β:Type}{f:α→Option β}{x:Option α}{y:β}(h:x.bind f=some y):∃ z,x=some z∧f z=some y:=Option.bind_eq_some_iff.mp h
section
variable {P:Params}{W:Wd}
theorem oM:∀ {vs:List V} {ds:List D} {us:List Value},VRs P W vs us→n8 vs=some ds→DRs P W.fz ds us
 | [],_,_,h,e=>Option.some.inj e▸h
 |_::_,_,_,.mk a r,e=>(bS e).elim fun _ q=>(c9 q.2).elim fun _ q'=>q'.2 ▸ .mk (V.dt_eq q.1▸a:VR P W (.dat _) _) (oM r q'.1)
theorem yC:∀ {vs:List (Nm×V)} {ds:List (Nm×D)} {us:List DictEntry},ER P W vs us→KT vs=some ds→DRe P W.fz ds us
 | [],_,_,h,e=>Option.some.inj e▸h
 |_::_,_,_,.mk a r,e=>(bS e).elim fun _ q=>(c9 q.2).elim fun _ q'=>q'.2 ▸ .mk (a.imp fun u (z:VR P W _ u)=>(V.dt_eq q.1▸z:VR P W (.dat _) u)) (yC r q'.1)
end
theorem O.live_mp {r:Nat→V}{k:Nat→Nat}:∀ o:O,(o.mp r k).live=o.live
 |.gone|.lst _|.tup _|.ns _|.fr _|.cel none|.cel (some _)|.ins _ _=>rfl
inductive LvM (r:Nat→V) (k:Nat→Nat) (hp:List O) (l:Nat):O→Prop
 |mk (o:O) (v:Lv hp l o):LvM r k hp l (o.mp r k)
theorem Lv.mapped {r:Nat→V}{k:Nat→Nat}{hp:List O}{l:Nat}{o':O}(x:Lv (hp.map (O.mp r k)) l o'):LvM r k hp l o':=
 (c9 (List.getElem?_map.symm.trans x.e)).elim fun o q=>q.2 ▸ .mk o ⟨q.1,(O.live_mp o).symm.trans (q.2▸x.v)⟩
theorem O.cl_all:∀ o:O,o.cl (fun _=>true)=true
 |.gone=>rfl
 |.lst _=>List.all_eq_true.mpr fun _ _=>V.cl_all _
 |.tup _=>List.all_eq_true.mpr fun _ _=>V.cl_all _
 |.ns _=>List.all_eq_true.mpr fun _ _=>V.cl_all _
 |.fr _=>List.all_eq_true.mpr fun _ _=>V.cl_all _
 |.cel none=>rfl
 |.cel (some _)=>V.cl_all _
 |.ins _ _=>rfl
noncomputable def sb (l:Nat)(d:D)(k:Nat):V:=match Nat.beq k l with
 |true=>.dat d
 |false=>.ref k
noncomputable def O.dt:O→Option D
 |.lst xs=>(n8 xs).map .lst
 |.tup xs=>(n8 xs).map .tup
 |.ns es=>(KT es).map .dct
 |_=>none
noncomputable def g9 (l:Nat)(hp:List O):Option D:=hp[l]?.bind O.dt
inductive Vw (P:Params) (W:Wd) (hp:List O) (h:Heap) (hp':List O) (r:Nat→V) (k:Nat→Nat):Prop
 |mk (W':Wd) (R:Rel P W' hp' h) (E:Ext W hp h W' hp' h) (m:Mv P W W' r k fun _=>true) (C:∀ a,¬ Live W hp a→W.fz a=none→¬ Live W' hp' a∧W'.fz a=none)
section
variable {P:Params}{W W' WS:Wd}{hp hp' hpS:List O}{h h':Heap}
theorem Rel.freeze (R:Rel P W hp h){l:Nat}{o:O}{d:D}{ob:Obj}(v:Lv hp l o)(g:h.get? (W.ρ l)=some ob)(hd:DR P (W.freeze (W.ρ l) ob).fz d (.ref (W.ρ l))):
  Vw P W hp h ((hp.set l .gone).map (O.mp (sb l d) id)) (sb l d) id:=
 have z:=R.cold _ _ v
 have le:=Wd.le_freeze (o:=ob) z
 have m:Mv P W (W.freeze (W.ρ l) ob) (sb l d) id fun _=>true:=⟨fun k _ q=>by
  unfold sb
  cases e:Nat.beq k l with
  |true=>exact Nat.eq_of_beq_eq_true e▸hd
  |false=>exact⟨q,rfl⟩,fun _ _=>id,fun _ _ _=>rfl,le.fz⟩
 have pk:∀ k o1,Lv ((hp.set l .gone).map (O.mp (sb l d) id)) k o1→From P W hp h (W.freeze (W.ρ l) ob) (id k) k o1:=fun k o1 x=>match x.mapped with
  |.mk o2 y=>match y.set with
   |.inl ⟨_,e'⟩=>nomatch (e'▸y.v:O.live .gone=true)
   |.inr ⟨n,y⟩=>.mk o2 y rfl ((R.obj _ _ y).imp (fun _=>id) fun _=>OR.go m (O.cl_all o2)) ((if_neg fun q=>n (R.inj _ _ _ _ y v q)).trans (R.cold _ _ y))
 .mk _ (R.via (k:=id) (by rw[List.length_map,List.length_set];exact R.len) (fun a o1 e=>by
   by_cases q:a=W.ρ l
   ·subst q;rw[← Option.some.inj ((if_pos rfl).symm.trans e)];exact g
   ·exact R.fz _ _ ((if_neg q).symm.trans e)) pk fun _ _ _ _=>id)
  ⟨le,fun a o1 e=>⟨fun _=>e,From.live pk,⟨o1,e⟩,fun o2 f=>by
   by_cases q:a=W.ρ l
   ·exact .inr (.mk l o v q.symm)
   ·exact .inl ((if_neg q).symm.trans f)⟩⟩ m fun a n c=>⟨fun x=>n (From.live pk x),(if_neg fun q=>n (.mk l o v q.symm)).trans c⟩
theorem O.dt_ok {fz:Addr→Option Obj}(hz:∀ a o,W.fz a=some o→fz a=some o){a:Addr}{o:O}{d:D}{ob:Obj}(e:o.dt=some d)(r:OR P W o ob)(f:fz a=some ob):DR P fz d (.ref a):=by
 cases o with
 |lst xs=>exact match(r:OSeq "list" (VRs P W xs) ob),f with|.mk vs n q,f=>(c9 e).elim fun _ x=>x.2 ▸ .mk _ vs n f (DRs.mono hz (oM q x.1))
 |tup xs=>exact match(r:OSeq "tuple" (VRs P W xs) ob),f with|.mk vs n q,f=>(c9 e).elim fun _ x=>x.2 ▸ .mk _ vs n f (DRs.mono hz (oM q x.1))
 |ns es=>exact match(r.2:ONs (ER P W es) ob),f with|.mk en n q,f=>(c9 e).elim fun _ x=>x.2 ▸ .mk _ en n f (DRe.mono hz (yC q x.1))
 |_=>cases e
theorem O.dt_live:∀ {o:O} {d:D},o.dt=some d→o.live=true
 |.lst _,_,_=>rfl
 |.tup _,_,_=>rfl
 |.ns _,_,_=>rfl
theorem BF (R:Rel P W hp h){l:Nat}{d:D}(e:g9 l hp=some d):Vw P W hp h ((hp.set l .gone).map (O.mp (sb l d) id)) (sb l d) id:=
 (bS e).elim fun o q=>have v:Lv hp l o:=⟨q.1,O.dt_live q.2⟩;match R.obj _ _ v with
  |.mk _ g r=>R.freeze v g (O.dt_ok (Wd.le_freeze (R.cold _ _ v)).fz q.2 r (if_pos rfl))
noncomputable def u6:List Nat→Nat→Option Nat
 | [],_=>none
 |x::r,l=>match Nat.beq x l with
  |true=>some 0
  |false=>(u6 r l).map (· +1)
noncomputable def cA (σ:List Nat)(l:Nat):Bool:=(u6 σ l).isSome
noncomputable def kr (σ:List Nat)(l:Nat):Nat:=(u6 σ l).getD 0
noncomputable def kept (σ:List Nat)(hp:List O):List O:=σ.map fun l=>(hp[l]?.getD .gone).ren (kr σ)
noncomputable def cL (σ:List Nat)(hp:List O):Bool:=σ.all fun l=>(hp[l]?.getD .gone).cl (cA σ)
noncomputable def KU:List Nat→Bool
 | []=>true
 |x::r=> !cA r x&&KU r
noncomputable def sX (σ:List Nat)(i:Nat):Nat:=σ[i]?.getD 0
noncomputable def kD (W:Wd)(σ:List Nat):Wd:=⟨σ.length,fun i=>W.ρ (sX σ i),W.fz⟩
theorem wS:∀ {σ:List Nat} {l i:Nat},u6 σ l=some i→σ[i]? =some l
 |x::r,l,i,e=>by
  unfold u6 at e
  cases q:Nat.beq x l with
  |true=>rw[q]at e;exact Option.some.inj e▸congrArg some (Nat.eq_of_beq_eq_true q)
  |false=>rw[q]at e;exact(c9 e).elim fun j z=>z.2▸wS (σ:=r) z.1
theorem wT:∀ {σ:List Nat} {l:Nat},l∈σ→cA σ l=true
 |x::r,l,m=>by
  unfold cA u6
  cases q:Nat.beq x l with
  |true=>rfl
  |false=>
   have:l∈r:=(List.mem_cons.mp m).elim (fun e=>by rw[e,Nat.beq_refl]at q;cases q) id
   exact(Option.isSome_map ..).trans (wT this)
theorem Jd:∀ {σ:List Nat},KU σ=true→σ.Nodup
 | [],_=>List.nodup_nil
 |x::r,e=>List.nodup_cons.mpr ⟨fun m=>(nomatch (wT m).symm.trans ((Bool.not_eq_true' _).mp (Bool.and_eq_true_iff.mp e).1)),Jd (Bool.and_eq_true_iff.mp e).2⟩
theorem Je {σ:List Nat}{l:Nat}(e:cA σ l=true):σ[kr σ l]? =some l:=(Option.isSome_iff_exists.mp e).elim fun i q=>by
 unfold kr;rw[q];exact wS q
theorem OM {σ:List Nat}{l:Nat}(e:cA σ l=true):kr σ l<σ.length:=(List.getElem?_eq_some_iff.mp (Je e)).1
theorem lZ {σ:List Nat}{i l:Nat}(e:σ[i]? =some l):sX σ i=l:=congrArg (·.getD 0) e
theorem pJ (P:Params)(W:Wd)(σ:List Nat):Mv P W (kD W σ) (fun l=>.ref (kr σ l)) (kr σ) (cA σ):=.ren (fun _ c _=>OM c) (fun _ c _=>congrArg W.ρ (lZ (Je c))) fun _ _=>id
theorem Lv.kept {σ:List Nat}{i:Nat}{o':O}(x:Lv (kept σ hp) i o'):∃ l o,σ[i]? =some l∧Lv hp l o∧o'=o.ren (kr σ)∧hp[l]?.getD .gone=o:=by
 obtain⟨l,h1,h2⟩:=c9 (List.getElem?_map.symm.trans x.e)
 have hv:=h2.symm▸x.v
 cases q:hp[l]? with
 |none=>rw[q]at hv;cases hv
 |some o=>rw[q]at h2 hv;exact⟨l,o,h1,⟨q,(O.live_mp o).symm.trans hv⟩,h2.symm,by rw[q];rfl⟩
theorem kZ {σ:List Nat}(R:Rel P W hp h)(cl:cL σ hp=true)(i:Nat)(o':O)(x:Lv (kept σ hp) i o'):From P W hp h (kD W σ) (sX σ i) i o':=
 match x.kept with
 |⟨l,o,h1,h2,h3,h4⟩=>by
  have e:=lZ h1
  have c:=List.all_eq_true.mp cl l (List.mem_of_getElem? h1)
  rw[h4]at c
  exact .mk o (e.symm▸h2) rfl (h3▸e.symm ▸ (R.obj _ _ h2).imp (fun _=>id) fun _=>OR.go (pJ P W σ) c) (e.symm▸R.cold _ _ h2)
theorem Rel.keep {σ:List Nat}(R:Rel P W hp h)(nd:KU σ=true)(cl:cL σ hp=true):Rel P (kD W σ) (kept σ hp) h:=
 R.via (k:=sX σ) (List.length_map ..).symm R.fz (kZ R cl) fun i j hi hj e=>by
  have hi':σ[i]? =some (sX σ i):=by unfold sX;rw[List.getElem?_eq_getElem hi];rfl
  have hj':σ[j]? =some (sX σ j):=by unfold sX;rw[List.getElem?_eq_getElem hj];rfl
  exact(List.getElem?_inj hi (Jd nd)).mp (hi'.trans ((congrArg some e).trans hj'.symm))
theorem Ext.keep {W0:Wd}{hp0:List O}{h0:Heap}{τ:List Nat}(E:Ext W0 hp0 h0 W hp h)(R:Rel P W hp h)(cl:cL (List.range W0.n++τ) hp=true):Ext W0 hp0 h0 (kD W (List.range W0.n++τ)) (kept (List.range W0.n++τ) hp) h:=
 have at_:∀ l,l<W0.n→sX (List.range W0.n++τ) l=l:=fun l q=>lZ (by rw[List.getElem?_append_left (by simpa using q)];exact List.getElem?_range q)
 ⟨⟨by show _≤(List.range W0.n++τ).length;rw[List.length_append,List.length_range];exact Nat.le_add_right _ _,fun l q=>(congrArg W.ρ (at_ l q)).trans (E.le.ρ l q),E.le.fz⟩,
  fun a o e=>let X:=E.at_ a o e;⟨X.keep,fun x=>X.live (From.live (kZ R cl) x),X.ex,X.cool⟩⟩
noncomputable def rn (σ:List Nat)(k i:Nat):Nat:=match σ[i]? with
 |some l=>l
 |none=>k+(i-σ.length)
noncomputable def Gb (f:Nat→O→O):Nat→List O→List O
 |_,[]=>[]
 |n,x::r=>f n x::Gb f (n+1) r
theorem oN (f:Nat→O→O):∀ (n i:Nat) (xs:List O),(Gb f n xs)[i]? =xs[i]?.map (f (n+i))
 |_,_,[]=>rfl
 |_,0,_::_=>rfl
 |n,i+1,_::r=>(oN f (n+1) i r).trans (by rw[Nat.add_right_comm];rfl)
theorem kE (f:Nat→O→O):∀ (n:Nat) (xs:List O),(Gb f n xs).length=xs.length
 |_,[]=>rfl
 |n,_::r=>congrArg (· +1) (kE f (n+1) r)
noncomputable def oA (σ:List Nat)(k:Nat)(hpS:List O)(l:Nat)(o:O):O:=match u6 σ l with
 |some i=>(hpS[i]?.getD .gone).ren (rn σ k)
 |none=>o
noncomputable def fO (σ:List Nat)(hp hpS:List O):List O:=Gb (oA σ hp.length hpS) 0 hp++(hpS.drop σ.length).map (O.ren (rn σ hp.length))
noncomputable def KV (W WS:Wd)(σ:List Nat):Wd:=⟨W.n+(WS.n-σ.length),fun l=>if l<W.n then W.ρ l else WS.ρ (σ.length+(l-W.n)),WS.fz⟩
inductive MrgA (σ:List Nat) (k:Nat) (hpS:List O) (l:Nat):O→Prop
 |mk (i:Nat) (o:O) (v:Lv hpS i o) (e:l=rn σ k i):MrgA σ k hpS l (o.ren (rn σ k))
theorem Jf {σ:List Nat}{k i l:Nat}(e:σ[i]? =some l):rn σ k i=l:=by unfold rn;rw[e]
theorem BG {σ:List Nat}{k i:Nat}(e:σ.length≤i):rn σ k i=k+(i-σ.length):=by unfold rn;rw[List.getElem?_eq_none e]
theorem kF {σ:List Nat}{l:Nat}{o:O}(x:Lv (fO σ hp hpS) l o):MrgA σ hp.length hpS l o∨(cA σ l=false∧l<hp.length∧Lv hp l o):=by
 have e:=x.e
 unfold fO at e
 by_cases q:l<hp.length
 ·rw[List.getElem?_append_left (by rw[kE];exact q),oN,Nat.zero_add]at e
  obtain⟨o0,h1,h2⟩:=c9 e
  unfold oA at h2
  cases z:u6 σ l with
  |some i=>
   rw[z]at h2
   have h2:(hpS[i]?.getD .gone).ren (rn σ hp.length)=o:=h2
   cases y:hpS[i]? with
   |none=>rw[y]at h2;exact nomatch (h2▸x.v:O.live (O.ren (rn σ hp.length) .gone)=true)
   |some oS=>rw[y]at h2;exact h2 ▸ .inl (.mk i oS ⟨y,(O.live_mp oS).symm.trans (h2.symm▸x.v)⟩ (Jf (wS z)).symm)
  |none=>
   rw[z]at h2
   exact .inr ⟨by unfold cA;rw[z];rfl,q,h2▸h1,x.v⟩
 ·rw[List.getElem?_append_right (by rw[kE];exact Nat.le_of_not_lt q),kE,List.getElem?_map,List.getElem?_drop]at e
  obtain⟨oS,h1,h2⟩:=c9 e
  subst h2
  exact .inl (.mk _ oS ⟨h1,(O.live_mp oS).symm.trans x.v⟩ (by rw[BG (Nat.le_add_right _ _),Nat.add_sub_cancel_left,Nat.add_sub_cancel' (Nat.le_of_not_lt q)]))
inductive Mrg (P:Params) (W:Wd) (hp:List O) (h:Heap) (WS:Wd) (hpS:List O) (h':Heap) (σ:List Nat):Prop
 |mk (W':Wd) (R:Rel P W' (fO σ hp hpS) h') (E:Ext W hp h W' (fO σ hp hpS) h') (m:Mv P WS W' (fun l=>.ref (rn σ hp.length l)) (rn σ hp.length) fun _=>true)
theorem Gd {σ:List Nat}(R:Rel P W hp h)(lt:∀ l∈σ,l<hp.length)(cl:cL σ hp=true)(R':Rel P WS hpS h')(E:Ext (kD W σ) (kept σ hp) h WS hpS h'):Mrg P W hp h WS hpS h' σ:=by
 have hn:σ.length≤WS.n:=E.le.n
 have lo:∀ l,l<W.n→(KV W WS σ).ρ l=W.ρ l:=fun l q=>if_pos q
 have le:W.le (KV W WS σ):=⟨Nat.le_add_right _ _,lo,E.le.fz⟩
 have at_:∀ i,i<WS.n→rn σ hp.length i < (KV W WS σ).n∧(KV W WS σ).ρ (rn σ hp.length i)=WS.ρ i:=fun i hi=>by
  by_cases q:i<σ.length
  ·have e:σ[i]? =some σ[i]:=List.getElem?_eq_getElem q
   have q':σ[i]<W.n:=R.len▸lt _ (List.getElem_mem q)
   rw[Jf e,lo _ q',E.le.ρ i q]
   exact⟨Nat.lt_of_lt_of_le q' le.n,congrArg W.ρ (lZ e).symm⟩
  ·have q:=Nat.le_of_not_lt q
   rw[BG q,← R.len]
   refine⟨Nat.add_lt_add_left (Nat.sub_lt_sub_right q hi) _,(if_neg (Nat.not_lt.mpr (Nat.le_add_right _ _))).trans ?_⟩
   rw[Nat.add_sub_cancel_left,Nat.add_sub_cancel' q]
 have m:Mv P WS (KV W WS σ) (fun l=>.ref (rn σ hp.length l)) (rn σ hp.length) fun _=>true:=.ren (fun i _ q=>(at_ i q).1) (fun i _ q=>(at_ i q).2) fun _ _=>id
 have sm:∀ {a:Addr},Live (kD W σ) (kept σ hp) a→Live W hp a:=From.live (kZ R cl)
 have apart:∀ l o,cA σ l=false→Lv hp l o→¬ Live (kD W σ) (kept σ hp) (W.ρ l):=fun l o hi v x=>match x with
  |.mk i o' y e=>match y.kept with
   |⟨l',o2,h1,h2,_,_⟩=>by
    obtain rfl:l'=l:=R.inj _ _ _ _ h2 v ((congrArg W.ρ (lZ h1)).symm.trans e)
    rw[wT (List.mem_of_getElem? h1)]at hi;cases hi
 have old:∀ l o,cA σ l=false→Lv hp l o→Got h' (W.ρ l) (OR P (KV W WS σ) o)∧WS.fz (W.ρ l)=none∧¬ Live WS hpS (W.ρ l):=fun l o hi v=>match R.obj l o v with
  |.mk ob g r=>let X:=E.at_ _ _ g
   ⟨.mk ob (X.keep (apart l o hi v)) (OR.mono le r),match z:WS.fz (W.ρ l)with
    |none=>rfl
    |some o'=>(X.cool o' z).elim (fun f=>(nT f (R.cold _ _ v)).elim) fun x=>absurd x (apart l o hi v),fun x=>apart l o hi v (X.live x)⟩
 refine .mk (KV W WS σ) ⟨?_,fun l o v=>?_,fun l o v=>?_,fun l l' o o' v v' e=>?_,R'.fz⟩ ⟨le,fun a o e=>let X:=E.at_ a o e;⟨fun n=>X.keep fun x=>n (sm x),fun x=>?_,X.ex,fun o' f=>(X.cool o' f).imp id sm⟩⟩ m
 ·unfold fO
  rw[List.length_append,kE,List.length_map,List.length_drop,← R'.len,← R.len];rfl
 ·match kF v with
  |.inl (.mk i oS y e)=>exact e ▸ (at_ i (R'.lt y)).2 ▸ (R'.obj _ _ y).imp (fun _=>id) fun _=>OR.go m (O.cl_all oS)
  |.inr ⟨a,b,y⟩=>exact(lo l (R.len▸b)).symm ▸ (old l o a y).1
 ·match kF v with
  |.inl (.mk i oS y e)=>exact e ▸ (at_ i (R'.lt y)).2▸R'.cold _ _ y
  |.inr ⟨a,b,y⟩=>exact(lo l (R.len▸b)).symm ▸ (old l o a y).2.1
 ·match kF v,kF v' with
  |.inl (.mk i oS y q),.inl (.mk i' oS' y' q')=>
   subst q q'
   rw[(at_ i (R'.lt y)).2,(at_ i' (R'.lt y')).2]at e
   rw[R'.inj _ _ _ _ y y' e]
  |.inl (.mk i oS y q),.inr ⟨a,b,y'⟩=>exact absurd (.mk i oS y ((at_ i (R'.lt y)).2.symm.trans (q▸e.trans (lo l' (R.len▸b))))) (old l' _ a y').2.2
  |.inr ⟨a,b,y⟩,.inl (.mk i oS y' q)=>exact absurd (.mk i oS y' ((at_ i (R'.lt y')).2.symm.trans (q▸e.symm.trans (lo l (R.len▸b))))) (old l _ a y).2.2
  |.inr ⟨_,b,y⟩,.inr ⟨_,b',y'⟩=>exact R.inj _ _ _ _ y y' ((lo l (R.len▸b)).symm.trans (e.trans (lo l' (R.len▸b'))))
 ·match x with
  |.mk l o1 v q=>match kF v with
   |.inl (.mk i oS y z)=>exact sm (X.live (.mk i oS y ((at_ i (R'.lt y)).2.symm.trans (z▸q))))
   |.inr ⟨_,b,y⟩=>exact .mk l o1 y ((lo l (R.len▸b)).symm.trans q)
end
end
section
noncomputable def nb:Nm→Nm→Bool
 | [],[]=>true
 |a::x,b::y=>match Nat.beq a b with
  |true=>nb x y
  |false=>false
 | [],_::_=>false
 |_::_,[]=>false
theorem iH:∀ {x y:Nm},nb x y=true→x=y
 | [],[],_=>rfl
 |a::x,b::y,h=>by
  unfold nb at h
  cases e:Nat.beq a b with
  |true=>rw[e]at h;rw[Nat.eq_of_beq_eq_true e,iH (x:=x) h]
  |false=>rw[e]at h;cases h
theorem oO:∀ x:Nm,nb x x=true
 | []=>rfl
 |a::x=>by unfold nb;rw[Nat.beq_refl];exact oO x
theorem rL {x y:Nm}(h:nb x y=false):x≠y:=fun e=>nomatch (e▸h).symm.trans (oO y)
noncomputable def lk {α:Type}:List (Nm×α)→Nm→Option α
 | [],_=>none
 |p::r,x=>match nb p.1 x with
  |true=>some p.2
  |false=>lk r x
noncomputable def pt {α:Type}:List (Nm×α)→Nm→α→List (Nm×α)
 | [],x,v=>[(x,v)]
 |p::r,x,v=>match nb p.1 x with
  |true=>(p.1,v)::r
  |false=>p::pt r x v
theorem u7 (x y:Nm)(t:Tok):(Value.str (st x) t).isStr (st y)=nb x y:=by
 show(st x==st y)=_
 cases e:nb x y with
 |true=>rw[iH e];exact beq_self_eq_true _
 |false=>exact beq_eq_false_iff_ne.mpr fun q=>rL e (sW q)
noncomputable def rA (n:Str):List DictEntry→Option Value
 | []=>none
 |e::r=>match e.key.isStr n with
  |true=>some e.val
  |false=>rA n r
theorem l0 (n:Str):∀ en:List DictEntry,(List.find? (fun e:DictEntry=>e.key.isStr n) en).map (·.val)=rA n en
 | []=>rfl
 |e::r=>by
  rw[List.find?_cons,rA]
  cases e.key.isStr n with
  |true=>rfl
  |false=>exact l0 n r
theorem pK (n:Str)(en:List DictEntry):nsFind en.toArray n=rA n en:=(congrArg (Option.map _) (List.find?_toArray _ _)).trans (l0 n en)
section
variable {P:Params}{W:Wd}
theorem Ent.key {x:Nm}{R:Value→Prop}{e:DictEntry}(y:Nm):Ent P x R e→e.key.isStr (st y)=nb x y
 |.mk _ t _ k _=>by rw[k];exact u7 x y t
theorem Ent.val {x:Nm}{R:Value→Prop}{e:DictEntry}:Ent P x R e→R e.val
 |.mk _ _ _ _ r=>r
theorem ER.keys:∀ {es:List (Nm×V)} {en:List DictEntry},ER P W es en→∀ e∈en,∃ n t,e.key=.str n t
 | [],_,h,_,m=>nomatch ((h:_=[])▸m)
 |_::_,_,.mk a r,_,m=>match List.mem_cons.mp m,a with
  |.inl q,.mk _ t _ k _=>⟨_,t,q▸k⟩
  |.inr q,_=>ER.keys r _ q
theorem ER.skeys {es:List (Nm×V)}{en:List DictEntry}(h:ER P W es en):StrKeys en.toArray:=fun e m=>h.keys e (List.mem_toArray.mp m)
theorem ER.find:∀ {es:List (Nm×V)} {en:List DictEntry} {x:Nm} {v:V},ER P W es en→lk es x=some v→∃ u,rA (st x) en=some u∧VR P W v u
 |p::_,_,x,v,.mk (a:=e) a r,h=>by
  unfold lk at h
  unfold rA
  rw[a.key x]
  cases q:nb p.1 x with
  |true=>rw[q]at h;exact⟨_,rfl,Option.some.inj h▸a.val⟩
  |false=>rw[q]at h;exact ER.find r h
theorem ER.miss:∀ {es:List (Nm×V)} {en:List DictEntry} {x:Nm},ER P W es en→lk es x=none→rA (st x) en=none
 | [],_,_,h,_=>(h:_=[])▸rfl
 |p::_,_,x,.mk (a:=e) a r,h=>by
  unfold lk at h
  unfold rA
  rw[a.key x]
  cases q:nb p.1 x with
  |true=>rw[q]at h;cases h
  |false=>rw[q]at h;exact ER.miss r h
theorem ER.put {x:Nm}{v:V}{u:Value}{t:Tok}(hv:VR P W v u):∀ {es:List (Nm×V)} {en:List DictEntry},ER P W es en→ER P W (pt es x v) (putL (st x) (PyData.keyHash P (st x)) (.str (st x) t) u en)
 | [],_,h=>(h:_=[]) ▸ .mk (.mk _ t rfl rfl hv) rfl
 |p::r,_,.mk (a:=e) a q=>by
  unfold pt putL
  rw[a.key x]
  cases nb p.1 x with
  |true=>exact .mk (match a with|.mk _ t h k _=>.mk _ t h k hv) q
  |false=>exact .mk a (ER.put hv q)
end
theorem BH {α:Type}(x:Nm)(v:α):∀ es:List (Nm×α),(pt es x v).length≤es.length+1
 | []=>Nat.le_refl _
 |p::r=>by
  unfold pt
  cases nb p.1 x with
  |true=>exact Nat.le_succ _
  |false=>exact Nat.succ_le_succ (BH x v r)
theorem yD {α:Type}(x:Nm)(v:α){y:Nm}:∀ {es:List (Nm×α)},y∈(pt es x v).map (·.1)→y=x∨y∈es.map (·.1)
 | [],h=>.inl (List.mem_singleton.mp h)
 |p::r,h=>by
  unfold pt at h
  cases q:nb p.1 x with
  |true=>rw[q]at h;exact .inr h
  |false=>rw[q]at h;exact(List.mem_cons.mp h).elim (fun e=>.inr (e ▸ .head _)) fun m=>(yD x v m).imp id (.tail _)
theorem l9 {α:Type}(x:Nm)(v:α):∀ {es:List (Nm×α)},(es.map (·.1)).Nodup→((pt es x v).map (·.1)).Nodup
 | [],_=>List.nodup_cons.mpr ⟨List.not_mem_nil,List.nodup_nil⟩
 |p::r,h=>by
  unfold pt
  cases q:nb p.1 x with
  |true=>exact h
  |false=>exact List.nodup_cons.mpr ⟨fun m=>(yD x v m).elim (rL q) (List.nodup_cons.mp h).1,l9 x v (List.nodup_cons.mp h).2⟩
structure Cl where
 adr:Nat
 meths:List (Nm×Nat)
 fields:List Nm
 consts:List (Nm×V)
structure Gam where
 glob:List (Nm×V)
 cls:List Cl
 blts:List (Nm×V)
noncomputable def W0 (K:Frag):Wd:=⟨0,fun _=>0,fun a=>K.lookup a⟩
noncomputable def hW (x:Nm)(l:List Nm):Bool:=l.any fun y=>nb y x
structure MethOk (K:Frag) (C:Addr) (m:Nm) (f:Nat):Prop where
 find:findIn K (.ref C) (st m)=some (some (.ref f))
 type:typeIn K (.ref f)=some (.type "function")
 get:specialIn K (.ref f) "__get__" =some (some (.builtin "function.__get__"))
 takes:takesIn K (.ref f)=some false
 copied:copiedNames.contains (st m)=false
inductive ConstOk (P:Params) (K:Frag) (C:Addr) (a:Nm) (v:V):Prop
 |mk (u:Value) (find:findIn K (.ref C) (st a)=some (some u)) (get:specialIn K u "__get__" =some none) (handed:handedIn u=true) (copied:copiedNames.contains (st a)=false) (r:VR P (W0 K) v u)
structure ClOk (P:Params) (K:Frag) (a:Addr) (c:Cl):Prop where
 get:plainGet K a Str.empty=true
 dict:hasDictIn K a=true
 over:plainOver K a=true
 set:findIn K (.ref a) "__setattr__" =some (some (.builtin "object.__setattr__"))
 makes:makesIn K a=true
 keep:keepIn K (.ref a)=true
 fields:∀ x,hW x c.fields=true→findIn K (.ref a) (st x)=some none
 meths:∀ m f,lk c.meths m=some f→MethOk K a m f
 consts:∀ x v,lk c.consts x=some v→ConstOk P K a x v
inductive NsK (K:Frag) (a:Addr) (p:Array DictEntry→Prop):Prop
 |mk (o:Obj) (es:Array DictEntry) (ep:Nat) (l:K.lookup a=some o) (d:o.data=.dict es ep) (k:StrKeys es) (q:p es)
structure Top (P:Params) (K:Frag) (G:Gam):Prop where
 cls:∀ c∈G.cls,ClOk P K c.adr c
 main:NsK K mainGlobals fun es=>(∀ x v,lk G.glob x=some v→∃ u,nsFind es (st x)=some u∧VR P (W0 K) v u)∧∀ x v,lk G.blts x=some v→nsFind es (st x)=none
 blt:NsK K builtinsNs fun es=>∀ x v,lk G.blts x=some v→∃ u,nsFind es (st x)=some u∧VR P (W0 K) v u
 lim:NsK K cStatics fun es=>nsFind es "sys.recursionlimit" =none
structure Cx where
 prog:Program
 w:World
 K:Frag
 G:Gam
 top:Top w.params K G
noncomputable abbrev Cx.P (c:Cx):Params:=c.w.params
noncomputable abbrev Cx.M (c:Cx):Model:=model c.prog c.w
noncomputable abbrev no:Value→Shared→Prop:=fun _ _=>False
noncomputable abbrev Cx.wp (c:Cx){α:Type}(A:Around)(m:Sem α)(Q:α→Shared→Prop)(s:Shared):Prop:=wpAny (model c.prog c.w) A m Q no s
structure Room (n:Nat) (A:Around):Prop where
 hd:A.handled=none
 dp:A.depth+10*n≤900
 un:A.units+20*n≤9000
theorem Room.less {n m:Nat}{A:Around}(h:Room n A)(l:m≤n):Room m A:=⟨h.hd,Nat.le_trans (Nat.add_le_add_left (Nat.mul_le_mul_left 10 l) _) h.dp,Nat.le_trans (Nat.add_le_add_left (Nat.mul_le_mul_left 20 l) _) h.un⟩
theorem f7 {a b n k c:Nat}(h:a+k * (n+1)≤c)(l:b≤k):a+b+k*n≤c:=by
 rw[Nat.mul_succ]at h
 omega
theorem Room.deeper {n:Nat}{A:Around}{env:Env}(h:Room (n+1) A):Room n (A.deeper env):=⟨h.hd,f7 h.dp (by decide),f7 h.un (by decide)⟩
theorem Room.in1 {n:Nat}{A:Around}(h:Room (n+1) A):Room n A.in1:=⟨h.hd,Nat.le_trans (Nat.le_trans (by show A.depth+10*n≤A.depth+0+10*n;exact Nat.le_refl _) (f7 (b:=0) h.dp (Nat.zero_le _))) (Nat.le_refl _),f7 h.un (by decide)⟩
theorem Room.under {n:Nat}{A:Around}{c:Code}(h:Room (n+1) A)(h1:c.weight≤10)(h2:c.cUnits≤20):Room n (A.under c):=⟨h.hd,f7 h.dp h1,f7 h.un h2⟩
theorem Room.rl {n:Nat}{A:Around}(h:Room n A):A.depth<recursionLimit:=Nat.lt_of_le_of_lt (Nat.le_trans (Nat.le_add_right _ _) h.dp) (by decide)
structure GenS (a b:Array GenState):Prop where
 size:a.size≤b.size
 keep:∀ g,g<a.size→b[g]? =a[g]?
 bare:∀ i y,a.size≤i→b[i]? =some y→y.bare=true
theorem GenS.refl (a:Array GenState):GenS a a:=⟨Nat.le_refl _,fun _ _=>rfl,fun _ _ h e=>(nT e (Array.getElem?_eq_none h)).elim⟩
theorem GenS.trans {a b c:Array GenState}(x:GenS a b)(y:GenS b c):GenS a c:=⟨Nat.le_trans x.size y.size,fun g h=>(y.keep g (Nat.lt_of_lt_of_le h x.size)).trans (x.keep g h),fun i z h e=>
 (Nat.lt_or_ge i b.size).elim (fun q=>x.bare i z h ((y.keep i q).symm.trans e)) fun q=>y.bare i z q e⟩
structure Lat (W:Wd) (hp:List O) (s:Shared) (W':Wd) (hp':List O) (s':Shared):Prop where
 e:Ext W hp s.heap W' hp' s'.heap
 g:GenS s.gens s'.gens
 o:s'.os=s.os
section
variable {W W' W'':Wd}{hp hp' hp'':List O}{s s' s'':Shared}
theorem Lat.refl (W:Wd)(hp:List O)(s:Shared):Lat W hp s W hp s:=⟨.refl ..,.refl _,rfl⟩
theorem Lat.trans (x:Lat W hp s W' hp' s')(y:Lat W' hp' s' W'' hp'' s''):Lat W hp s W'' hp'' s'':=⟨x.e.trans y.e,x.g.trans y.g,y.o.trans x.o⟩
theorem Lat.le (x:Lat W hp s W' hp' s'):W.le W':=x.e.le
theorem Lat.of {h':Heap}{t:Nat}(e:Ext W hp s.heap W' hp' h'):Lat W hp s W' hp' {s with heap:=h',toks:=t}:=⟨e,.refl _,rfl⟩
end
noncomputable abbrev RT (β α:Type):=Wd→β→α→Prop
inductive Post (c:Cx) {α β:Type} (RR:RT β α) (W:Wd) (hp:List O) (s:Shared) (b:β) (hp':List O) (a:α) (s':Shared):Prop
 |mk (W':Wd) (r:Rel c.P W' hp' s'.heap) (l:Lat W hp s W' hp' s') (x:RR W' b a)
structure At (c:Cx) (n:Nat) (A:Around) (W:Wd) (hp:List O) (s:Shared):Prop where
 room:Room n A
 rel:Rel c.P W hp s.heap
 kin:∀ a o,c.K.lookup a=some o→W.fz a=some o
 tk:0<s.toks
section
variable {c:Cx}{α β γ:Type}{RR:RT β α}{A:Around}{n:Nat}{W W':Wd}{hp hp' hp'':List O}{s s' s'':Shared}{a:α}{b:β}
theorem Post.later (l:Lat W hp s W' hp' s'):Post c RR W' hp' s' b hp'' a s''→Post c RR W hp s b hp'' a s''
 |.mk W2 r l2 x=>.mk W2 r (l.trans l2) x
theorem Post.here (z:At c n A W hp s)(x:RR W b a):Post c RR W hp s b hp a s:=.mk W z.rel (.refl ..) x
theorem Post.tok {t:Nat}(z:At c n A W hp s)(x:RR W b a):Post c RR W hp s b hp a {s with toks:=t}:=.mk W z.rel ⟨.refl ..,.refl _,rfl⟩ x
theorem At.le0 (z:At c n A W hp s):(W0 c.K).le W:=⟨Nat.zero_le _,fun _ q=>absurd q (Nat.not_lt_zero _),z.kin⟩
theorem At.In (z:At c n A W hp s):c.K.In s.heap:=fun a o e=>z.rel.fz a o (z.kin a o e)
theorem At.nolimit (z:At c n A W hp s):s.heap.NoLimit:=match c.top.lim with
 |.mk o es ep a b k d=>⟨fun y=>nsFind es y,⟨o,es,ep,z.In _ _ a,b,k,fun _=>rfl⟩,d⟩
theorem At.next (z:At c n A W hp s)(l:Lat W hp s W' hp' s')(r:Rel c.P W' hp' s'.heap)(t:s.toks≤s'.toks):At c n A W' hp' s':=⟨z.room,r,fun a o e=>l.le.fz a o (z.kin a o e),Nat.lt_of_lt_of_le z.tk t⟩
theorem At.less {m:Nat}(z:At c n A W hp s)(l:m≤n):At c m A W hp s:=⟨z.room.less l,z.rel,z.kin,z.tk⟩
theorem At.to {m:Nat}{B:Around}(z:At c n A W hp s)(l:Room m B):At c m B W hp s:=⟨l,z.rel,z.kin,z.tk⟩
theorem go {m:Sem α}{Z:α→Shared→Prop}(z:At c n A W hp s)(h:c.wp A m (Post c RR W hp s b hp') s)(k:∀ W' a s',At c n A W' hp' s'→Lat W hp s W' hp' s'→RR W' b a→Z a s'):c.wp A m Z s:=
 wpAny_with_toks (Nat.le_refl s.toks) (wpAny_mono h (fun a s' p t=>match p with|.mk W' r l x=>k W' a s' (z.next l r t) l x) fun _ _ x=>x.elim)
end
structure Fx where
 fr:Nat
 cs:List (Nm×Nat)
structure FrR (W:Wd) (F:Fx) (env:Env):Prop where
 lt:F.fr<W.n
 loc:env.locals=W.ρ F.fr
 cel:∀ x l,lk F.cs x=some l→l<W.n∧env.cells.lookup (st x)=some (W.ρ l)
 kind:env.scope.kind=.function
 glob:env.globals=mainGlobals
 blt:env.builtins=builtinsNs
theorem FrR.mono {W W':Wd}{F:Fx}{env:Env}(h:W.le W')(x:FrR W F env):FrR W' F env:=
 ⟨Nat.lt_of_lt_of_le x.lt h.n,x.loc.trans (h.ρ _ x.lt).symm,fun y l e=>have q:=x.cel y l e;⟨Nat.lt_of_lt_of_le q.1 h.n,q.2.trans (congrArg some (h.ρ _ q.1).symm)⟩,x.kind,x.glob,x.blt⟩
noncomputable abbrev aU:=List (Str×NameKind)
structure AtF (c:Cx) (sc:aU) (n:Nat) (F:Fx) (hp:List O) (A:Around) (W:Wd) (s:Shared) (env:Env):Prop where
 a:At c n A W hp s
 f:FrR W F env
 sc:env.scope.names=sc
noncomputable def Run (c:Cx)(sc:aU)(n:Nat)(F:Fx)(hp:List O){α β:Type}(t:Env→Sem α)(RR:RT β α)(b:β)(hp':List O):Prop:=
 ∀ A W s env,AtF c sc n F hp A W s env→c.wp A (t env) (Post c RR W hp s b hp') s
section
variable {c:Cx}{sc:aU}{n:Nat}{F:Fx}{hp hp1:List O}{A:Around}{W W':Wd}{s s':Shared}{env:Env}{α β:Type}{t:Env→Sem α}{RR:RT β α}{b:β}
theorem AtF.next (z:AtF c sc n F hp A W s env)(l:Lat W hp s W' hp1 s')(a:At c n A W' hp1 s'):AtF c sc n F hp1 A W' s' env:=⟨a,z.f.mono l.le,z.sc⟩
theorem Run.go (h:Run c sc n F hp t RR b hp1)(z:AtF c sc n F hp A W s env){Z:α→Shared→Prop}(k:∀ W1 u s1,AtF c sc n F hp1 A W1 s1 env→Lat W hp s W1 hp1 s1→RR W1 b u→Z u s1):c.wp A (t env) Z s:=
 Tk.go z.a (h A W s env z) fun W1 u s1 a l x=>k W1 u s1 (z.next l a) l x
end
end
section
noncomputable def O.frE:O→Option (List (Nm×V))
 |.fr es=>some es
 |_=>none
noncomputable def O.nsE:O→Option (List (Nm×V))
 |.ns es=>some es
 |_=>none
noncomputable def O.celE:O→Option (Option V)
 |.cel v=>some v
 |_=>none
noncomputable def O.insE:O→Option (Nat×Nat)
 |.ins c d=>some (c,d)
 |_=>none
noncomputable def O.lstE:O→Option (List V)
 |.lst xs=>some xs
 |_=>none
noncomputable def O.tupE:O→Option (List V)
 |.tup xs=>some xs
 |_=>none
theorem rM {hp:List O}{l:Nat}{es:List (Nm×V)}(e:hp[l]?.bind O.frE=some es):Lv hp l (.fr es):=(bS e).elim fun o q=>⟨q.1.trans (by cases o <;>first|exact congrArg (fun z=>some (O.fr z)) (Option.some.inj q.2)|exact nomatch q.2),rfl⟩
theorem pL {hp:List O}{l:Nat}{es:List (Nm×V)}(e:hp[l]?.bind O.nsE=some es):Lv hp l (.ns es):=(bS e).elim fun o q=>⟨q.1.trans (by cases o <;>first|exact congrArg (fun z=>some (O.ns z)) (Option.some.inj q.2)|exact nomatch q.2),rfl⟩
theorem BI {hp:List O}{l:Nat}{v:Option V}(e:hp[l]?.bind O.celE=some v):Lv hp l (.cel v):=(bS e).elim fun o q=>⟨q.1.trans (by cases o <;>first|exact congrArg (fun z=>some (O.cel z)) (Option.some.inj q.2)|exact nomatch q.2),rfl⟩
theorem KW {hp:List O}{l:Nat}{z:Nat×Nat}(e:hp[l]?.bind O.insE=some z):Lv hp l (.ins z.1 z.2):=(bS e).elim fun o q=>⟨q.1.trans (by cases o <;>first|exact congrArg (fun z:Nat×Nat=>some (O.ins z.1 z.2)) (Option.some.inj q.2)|exact nomatch q.2),rfl⟩
theorem fP {hp:List O}{l:Nat}{xs:List V}(e:hp[l]?.bind O.lstE=some xs):Lv hp l (.lst xs):=(bS e).elim fun o q=>⟨q.1.trans (by cases o <;>first|exact congrArg (fun z=>some (O.lst z)) (Option.some.inj q.2)|exact nomatch q.2),rfl⟩
theorem KX {hp:List O}{l:Nat}{xs:List V}(e:hp[l]?.bind O.tupE=some xs):Lv hp l (.tup xs):=(bS e).elim fun o q=>⟨q.1.trans (by cases o <;>first|exact congrArg (fun z=>some (O.tup z)) (Option.some.inj q.2)|exact nomatch q.2),rfl⟩
structure Rs (β:Type) (T:β→List O→Prop) where
 v:β
 hp:List O
 g:Bool
 ok:g=true→T v hp
noncomputable def tk {α β:Type}(x:Option α)(f:∀ a,x=some a→Option β):Option β:=match x,f with
 |some a,f=>f a rfl
 |none,_=>none
noncomputable def GP {α β:Type}(x:Option α)(f:∀ a,x=some a→β)(n:x=none→β):β:=match x,f,n with
 |some a,f,_=>f a rfl
 |none,_,n=>n rfl
noncomputable abbrev u8:RT Unit Unit:=fun _ _ _=>True
noncomputable abbrev BJ:RT Bool Bool:=fun _ b a=>a=b
noncomputable abbrev Cx.VT (c:Cx):RT V Value:=VR c.P
noncomputable def BK (c:Cx)(n:Nat)(hp:List O){α β:Type}(f:Value→Sem α)(RR:RT β α)(a:V)(b:β)(hp':List O):Prop:=∀ A W s u,At c n A W hp s→VR c.P W a u→c.wp A (f u) (Post c RR W hp s b hp') s
noncomputable def bZ (c:Cx)(n:Nat)(hp:List O){α β:Type}(f:Value→Value→Sem α)(RR:RT β α)(a a':V)(b:β)(hp':List O):Prop:=
 ∀ A W s u u',At c n A W hp s→VR c.P W a u→VR c.P W a' u'→c.wp A (f u u') (Post c RR W hp s b hp') s
noncomputable def Ti (c:Cx)(n:Nat)(hp:List O){α β:Type}(f:List Value→Sem α)(RR:RT β α)(as:List V)(b:β)(hp':List O):Prop:=∀ A W s us,At c n A W hp s→VRs c.P W as us→c.wp A (f us) (Post c RR W hp s b hp') s
noncomputable def AD (F:Fx)(x:Nm)(hp:List O):Option V:=(hp[F.fr]?.bind O.frE).bind fun es=>lk es x
noncomputable def lO (F:Fx)(x:Nm)(v:V)(hp:List O):Option (List O):=(hp[F.fr]?.bind O.frE).map fun es=>hp.set F.fr (.fr (pt es x v))
noncomputable def Ge (F:Fx)(x:Nm)(hp:List O):Option V:=(lk F.cs x).bind fun l=>(hp[l]?.bind O.celE).bind id
noncomputable def Gf (F:Fx)(x:Nm)(v:V)(hp:List O):Option (List O):=(lk F.cs x).bind fun l=>(hp[l]?.bind O.celE).map fun _=>hp.set l (.cel (some v))
noncomputable def Gg (G:Gam)(x:Nm):Option V:=match lk G.glob x with
 |some v=>some v
 |none=>lk G.blts x
theorem u9 (c:Value)(d:Option Addr)(sl:Array (Option Value))(name:Str)(hsh:Int)(key v:Value)(es:List DictEntry)(n:Nat):
  Obj.putName name hsh key v ⟨c,d,.dict es.toArray n,sl⟩=⟨c,d,.dict (putL name hsh key v es).toArray (putN name es n),sl⟩:=by
 rw[Obj.putName_eq]
 unfold Obj.putNameByArray putN
 have h1:=putL_find name hsh key v es
 have h2:=any_of_findIdx name es
 simp only[List.findIdx?_toArray]
 cases h:List.findIdx? (fun x=>x.key.isStr name) es with
 |none=>rw[h]at h1 h2;rw[← h2,← h1];simp
 |some i=>rw[h]at h1 h2;rw[← h2,← h1];simp
section
variable {c:Cx}{n:Nat}{A:Around}{W:Wd}{hp:List O}{s:Shared}{sc:aU}{F:Fx}{env:Env}{x:Nm}{v:V}{u:Value}
theorem ER.noref {es:List (Nm×V)}{en:List DictEntry}(h:ER c.P W es en):en.any (·.refKey)=false:=List.any_eq_false.mpr fun e m=>match h.keys e m with
 |⟨_,_,q⟩=>by unfold DictEntry.refKey;rw[q];exact Bool.false_ne_true
theorem ER.ns {es:List (Nm×V)}{en:List DictEntry}(h:ER c.P W es en){H:Heap}{a:Addr}{cl:Value}{d:Option Addr}{k:Nat}{sl:Array (Option Value)}(g:H.get? a=some ⟨cl,d,.dict en.toArray k,sl⟩):H.Ns a fun y=>nsFind en.toArray y:=⟨_,en.toArray,k,g,rfl,h.skeys,fun _=>rfl⟩
theorem yE {l:Nat}{o o':O}{B:Around}{es:List (Nm×V)}{cl:Value}{d:Option Addr}{en:List DictEntry}{k:Nat}{sl:Array (Option Value)}(z:At c n A W hp s)(lv:Lv hp l o)(g:s.heap.get? (W.ρ l)=some ⟨cl,d,.dict en.toArray k,sl⟩)(hE:ER c.P W es en)(hv:VR c.P W v u)
  (ho:∀ en' k',ER c.P W (pt es x v) en'→OR c.P W o' ⟨cl,d,.dict en'.toArray k',sl⟩):c.wp B (nsSet (W.ρ l) (st x) u) (Post c u8 W hp s () (hp.set l o')) s:=by
 refine wpAny_bind (wpAny_bind (wpAny_askSetting (wpAny_pure (wpAny_bind (wpAny_mkText (wpAny_bind (wpAny_loadPart g ?_)))))))
 dsimp only
 have hc:aRefKeyMayBeTheName (st x) en.toArray=false:=by rw[aRefKeyMayBeTheName_at,show en.toArray.any (·.refKey)=false from List.any_toArray.trans hE.noref,Bool.and_false]
 rw[hc]
 have q:=z.rel.update (l:=l) (o:=o) (o':=o') (f:=Obj.putName (st x) (PyData.keyHash c.w.params (st x)) (.str (st x) s.toks) u) lv g (by rw[u9];exact ho _ _ (hE.put hv))
 exact wpAny_updatePart g (.mk W q.1 (.of q.2) trivial)
theorem Jg (z:AtF c sc n F hp A W s env)(hk:env.kindOf (st x)=some .local)(e:AD F x hp=some v):c.wp A (loadName env (st x)) (Post c c.VT W hp s v hp) s:=
 (bS e).elim fun es q=>match z.a.rel.fr (rM q.1)with
 |.mk _ en k g d=>(d.find q.2).elim fun u r=>wpAny_loadName_local z.f.kind hk (z.f.loc.symm▸d.ns g) ((pK _ _).trans r.1) (.here z.a r.2)
theorem ON (z:AtF c sc n F hp A W s env)(hk:env.kindOf (st x)=some .cell∨(env.kindOf (st x)=some .free∧(st x==("__classdict__" :Str))=false))(e:Ge F x hp=some v):c.wp A (loadName env (st x)) (Post c c.VT W hp s v hp) s:=
 (bS e).elim fun l q=>(bS q.2).elim fun r y=>match r,y with
 |some _,y=>match z.a.rel.cel (BI y.1)with
  |.mk none _ d=>d.elim
  |.mk (some u) g d=>have h:=(z.f.cel x l q.1).2;have p:=Post.here z.a (Option.some.inj y.2▸d)
   hk.elim (fun hk=>wpAny_loadName_cell z.f.kind hk h ⟨_,g,rfl⟩ p) fun hk=>wpAny_loadName_free z.f.kind hk.1 h ⟨_,g,rfl⟩ p hk.2
theorem sY {hp':List O}(z:AtF c sc n F hp A W s env)(hk:env.kindOf (st x)=some .local)(hv:VR c.P W v u)(e:lO F x v hp=some hp'):c.wp A (storeName env (st x) u) (Post c u8 W hp s () hp') s:=
 (c9 e).elim fun es q=>have lv:=rM q.1;match z.a.rel.fr lv with
 |.mk cl en k g d=>by
  rw[storeName_local hk (by rw[z.f.kind];rfl),z.f.loc,← q.2]
  exact yE z.a lv g d hv fun en' k' d'=>.mk cl en' k' d'
theorem BL {hp':List O}(z:AtF c sc n F hp A W s env)(hk:env.kindOf (st x)=some .cell)(hv:VR c.P W v u)(e:Gf F x v hp=some hp'):c.wp A (storeName env (st x) u) (Post c u8 W hp s () hp') s:=
 (bS e).elim fun l q=>(c9 q.2).elim fun r y=>have lv:=BI y.1;match z.a.rel.cel lv with
 |.mk r g d=>by
  unfold storeName
  simp only[hk,z.f.kind]
  refine wpAny_bind (wpAny_cellOf (z.f.cel x l q.1).2 ?_)
  unfold cellSet
  have t:=z.a.rel.update (o':=.cel (some v)) (f:=fun o=>{o with data:=.cell (some u)}) lv g (.mk (some u) hv)
  rw[← y.2]
  exact wpAny_bind (wpAny_load g (wpAny_update g (.mk W t.1 (.of t.2) trivial)))
theorem OO (z:AtF c sc n F hp A W s env)(hk:env.kindOf (st x)=some .globalImplicit)(e:Gg c.G x=some v):c.wp A (loadName env (st x)) (Post c c.VT W hp s v hp) s:=by
 have key:c.wp A (loadGlobal env (st x)) (Post c c.VT W hp s v hp) s:=match c.top.main with
  |.mk o es ep l d k q=>by
   have hN:s.heap.Ns env.globals fun y=>nsFind es y:=z.f.glob ▸ ⟨o,es,ep,z.a.In _ _ l,d,k,fun _=>rfl⟩
   unfold Gg at e
   cases hg:lk c.G.glob x with
   |some v'=>
    rw[hg]at e
    exact(q.1 x v' hg).elim fun u r=>loadGlobal_global hN r.1 (.here z.a (Option.some.inj e▸r.2.mono z.a.le0))
   |none=>
    rw[hg]at e
    exact match c.top.blt with
     |.mk o' es' ep' l' d' k' q'=>(q' x v e).elim fun u r=>loadGlobal_builtin hN (q.2 x v e) (z.f.blt ▸ ⟨o',es',ep',z.a.In _ _ l',d',k',fun _=>rfl⟩:s.heap.Ns env.builtins fun y=>nsFind es' y) r.1 (.here z.a (r.2.mono z.a.le0))
 have h:loadName env (st x)=loadGlobal env (st x):=by
  unfold loadName
  simp only[Env.blockKind,z.f.kind,hk,ScopeKind.isAnnotationScope,Bool.false_and,Bool.false_eq_true,if_false]
 rw[h];exact key
structure Ins where
 c:Nat
 d:Nat
 es:List (Nm×V)
noncomputable def vA (hp:List O)(l:Nat):Option Ins:=(hp[l]?.bind O.insE).bind fun p=>(hp[p.2]?.bind O.nsE).map fun es=>⟨p.1,p.2,es⟩
inductive InsAt (P:Params) (W:Wd) (h:Heap) (hp:List O) (l:Nat) (I:Ins):Prop
 |mk (en:List DictEntry) (k:Nat) (lv:Lv hp I.d (.ns I.es)) (nd:(I.es.map (·.1)).Nodup) (E:ER P W I.es en) (g:h.get? (W.ρ I.d)=some ⟨.type "dict",none,.dict en.toArray k,#[]⟩)
  (a:PySem.W.InstAt h (W.ρ l) ⟨.ref I.c,some (W.ρ I.d),.plain,#[]⟩ I.c (some ⟨.type "dict",none,.dict en.toArray k,#[]⟩))
theorem lP {P:Params}{h:Heap}(R:Rel P W hp h){l:Nat}{I:Ins}(e:vA hp l=some I):InsAt P W h hp l I:=
 (bS e).elim fun p q=>(c9 q.2).elim fun es y=>have lv:=pL y.1;y.2▸match R.ins (KW q.1),R.ns lv with
 |⟨g,_⟩,.mk en k g' d nd=>.mk en k lv nd d g' ⟨g,rfl,rfl,g'⟩
noncomputable def yF:List Cl→Nat→Option Cl
 | [],_=>none
 |c::r,a=>match Nat.beq c.adr a with
  |true=>some c
  |false=>yF r a
theorem BM:∀ {l:List Cl} {a:Nat} {cl:Cl},yF l a=some cl→cl∈l∧cl.adr=a
 |c::r,a,cl,e=>by
  unfold yF at e
  cases q:Nat.beq c.adr a with
  |true=>rw[q]at e;exact Option.some.inj e ▸ ⟨.head _,Nat.eq_of_beq_eq_true q⟩
  |false=>rw[q]at e;exact(BM (l:=r) e).imp (.tail _) id
noncomputable def V.plain:V→Bool
 |.blt _=>false
 |_=>true
theorem V.plain_handed {P:Params}:∀ {v:V} {u:Value},v.plain=true→VR P W v u→handedIn u=true
 |.dat .non,_,_,h=>(h:_=_)▸rfl
 |.dat (.boo _),_,_,h=>(h:_=_)▸rfl
 |.dat (.int _),_,_,.mk _=>rfl
 |.dat (.str _),_,_,.mk _=>rfl
 |.dat (.tup _),_,_,.mk .. =>rfl
 |.dat (.lst _),_,_,.mk .. =>rfl
 |.dat (.dct _),_,_,.mk .. =>rfl
 |.ref _,_,_,h=>h.2▸rfl
 |.top _,_,_,h=>(h:_=_)▸rfl
 |.typ _,_,_,h=>(h:_=_)▸rfl
 |.rng ..,_,_,.mk .. =>rfl
 |.mth ..,_,_,.mk .. =>rfl
theorem ER.look {es:List (Nm×V)}{en:List DictEntry}(hE:ER c.P W es en)(cl:Value)(d:Option Addr)(k:Nat)(sl:Array (Option Value))(r:Option Value)(e:rA (st x) en=r):lookIn (st x) ⟨cl,d,.dict en.toArray k,sl⟩=some r:=by
 have q:=l0 (st x) en
 unfold lookIn
 dsimp only
 cases y:en.find? (fun e=>e.key.isStr (st x))with
 |some e'=>rw[y]at q;exact congrArg some (q.trans e)
 |none=>
  rw[y]at q
  dsimp only
  rw[hE.noref]
  exact congrArg some (q.trans e)
theorem Jh {c:Cx}{a:Nat}{cl:Cl}(e:yF c.G.cls a=some cl):ClOk c.P c.K a cl:=have q:=BM e;q.2▸c.top.cls cl q.1
section
variable {l:Nat}{I:Ins}{cl:Cl}{expr:Bool}(z:At c n A W hp s)(h:VR c.P W (.ref l) u)(e:vA hp l=some I)(e2:yF c.G.cls I.c=some cl)
include z h e e2
theorem Gh {y:V}(e3:lk I.es x=some y)(g:(hW x cl.fields&&y.plain)=true):c.wp A (getAttr u (st x) expr) (Post c c.VT W hp s y hp) s:=match lP z.rel e,Jh e2,Bool.and_eq_true_iff.mp g with
 |.mk en k lv nd E gd a,C,⟨g1,g2⟩=>(E.find e3).elim fun w r=>by
  rw[show u=.ref (W.ρ l)from h.2]
  exact get_value z.In a (plainGet_of C.get).1 (findObj_own C.dict (C.fields x g1) rfl (E.look _ _ _ _ _ r.1)) (V.plain_handed g2 r.2) (.tok z r.2)
theorem Gj {f:Nat}(e3:lk I.es x=none)(e4:lk cl.meths x=some f):c.wp A (getAttr u (st x) expr) (Post c c.VT W hp s (.mth f l) hp) s:=match lP z.rel e,Jh e2 with
 |.mk en k lv nd E gd a,C=>by
  rw[show u=.ref (W.ρ l)from h.2]
  have m:=C.meths x f e4
  have y:=z.rel.allocZ (ob:=methodObj (.ref f) (.ref (W.ρ l))) rfl
  exact get_bind z.In a (plainGet_of C.get).1 (findObj_fn C.dict m.find m.get m.takes m.copied (E.look _ _ _ _ _ (E.miss e3))) (plainGet_of C.get).2 (wpAny_call (fn_get (s:={s with toks:=s.toks+1}) z.In m.type (handed_on rfl (.mk _ y.1 (.of y.2) (.mk _ h.1 (if_pos rfl))))))
theorem Gk {y:V}(e3:lk I.es x=none)(e4:lk cl.consts x=some y):c.wp A (getAttr u (st x) expr) (Post c c.VT W hp s y hp) s:=match lP z.rel e,Jh e2 with
 |.mk en k lv nd E gd a,C=>match C.consts x y e4 with
  |.mk w f1 f2 f3 f4 f5=>by
   rw[show u=.ref (W.ρ l)from h.2]
   exact get_value z.In a (plainGet_of C.get).1 (findObj_cls C.dict f1 f2 f3 f4 (E.look _ _ _ _ _ (E.miss e3))) f3 (.tok z (f5.mono z.le0))
theorem Gl {v:V}{w:Value}(hv:VR c.P W v w)(g:(hW x cl.fields&&Nat.ble I.es.length 100)=true):c.wp A (setAttr u (st x) w) (Post c u8 W hp s () (hp.set I.d (.ns (pt I.es x v)))) s:=match lP z.rel e,Jh e2,Bool.and_eq_true_iff.mp g with
 |.mk en k lv nd E gd a,C,⟨g1,g2⟩=>by
  rw[show u=.ref (W.ρ l)from h.2]
  obtain⟨cd,hcd,hd'⟩:=any_some C.dict
  refine set_plain z.In a C.set (osa_open (s:={s with toks:=s.toks+1}) (r:=none) z.In a C.over (by unfold takerIn;rw[C.fields x g1];rfl) fun b=>?_)
  refine wpAny_bind (wpAny_pure (wpAny_bind (wpAny_bind (wpAny_loadPart a.at_ (wpAny_bind ((looks_clsIn z.In hcd).at ?_))))))
  rw[hd']
  refine wpAny_pure (a:=some (W.ρ I.d)) (wpAny_bind (wpAny_pure (wpAny_bind ?_)))
  refine wpAny_mono (yE (s:={s with toks:=s.toks+1}) (o':=.ns (pt I.es x v)) ⟨z.room,z.rel,z.kin,Nat.succ_pos _⟩ lv gd E hv fun en' k' E'=>⟨l9 x v nd,.mk en' k' E'⟩) (fun _ s' p=>?_) fun _ _ f=>f.elim
  match p with
  |.mk W' R' L' _=>
   have lv':Lv (hp.set I.d (.ns (pt I.es x v))) I.d (.ns (pt I.es x v)):=⟨List.getElem?_set_self lv.lt,rfl⟩
   match R'.ns lv' with
   |.mk en' k' g' E' _=>
    rw[L'.le.ρ _ (z.rel.lt lv)]at g'
    refine wpAny_bind (wpAny_lookBehind g' (pastItsLine_dict (by rw[List.size_toArray,R2.len E',sizeLine_eq];have:=BH x v I.es;have:=Nat.le_of_ble_eq_true g2;omega)) ?_)
    exact wpAny_pure (.mk W' R' ⟨L'.e,L'.g,L'.o⟩ trivial)
end
noncomputable def OP (c:Cx)(n:Nat)(hp:List O):(v:V)→(x:Nm)→Option (Rs V fun y hp'=>∀ expr,BK c n hp (fun u=>getAttr u (st x) expr) c.VT v y hp')
 |.ref l,x=>tk (vA hp l) fun I e=>tk (yF c.G.cls I.c) fun cl e2=>GP (lk I.es x) (fun y e3=>some ⟨y,hp,hW x cl.fields&&y.plain,fun g _ _ _ _ _ z h=>Gh z h e e2 e3 g⟩)
   fun e3=>GP (lk cl.meths x) (fun f e4=>some ⟨.mth f l,hp,true,fun _ _ _ _ _ _ z h=>Gj z h e e2 e3 e4⟩) fun _=>tk (lk cl.consts x) fun y e4=>some ⟨y,hp,true,fun _ _ _ _ _ _ z h=>Gk z h e e2 e3 e4⟩
 |_,_=>none
noncomputable def OQ (c:Cx)(n:Nat)(hp:List O):(v:V)→(x:Nm)→(y:V)→Option (Rs Unit fun _ hp'=>bZ c n hp (fun u w=>setAttr u (st x) w) u8 v y () hp')
 |.ref l,x,y=>tk (vA hp l) fun I e=>tk (yF c.G.cls I.c) fun cl e2=>some ⟨(),hp.set I.d (.ns (pt I.es x y)),hW x cl.fields&&Nat.ble I.es.length 100,fun g _ _ _ _ _ z h hv=>Gl z h e e2 hv g⟩
 |_,_,_=>none
end
end
section
noncomputable def pM:List Nm→List (Nm×Nat)→List O→List (Nm×Nat)×List O
 | [],cs,hp=>(cs,hp)
 |x::r,cs,hp=>pM r ((x,hp.length)::cs) (hp++[.cel none])
noncomputable def pN:NameKind→Bool
 |.cell=>true
 |_=>false
theorem AE:∀ k:NameKind,(k==.cell)=pN k:=by intro k;cases k <;>rfl
noncomputable def eV:aU→List Nm
 | []=>[]
 |p::r=>match pN p.2 with
  |true=>p.1.cps.toList::eV r
  |false=>eV r
theorem bA (x:Str):st x.cps.toList=x:=congrArg Str.mk (Array.toArray_toList ..)
noncomputable def yG (F:Fx):List Nm→List V→List O→Option (List O)
 |x::xs,v::vs,hp=>(match lk F.cs x with
  |some _=>Gf F x v hp
  |none=>lO F x v hp).bind fun hp1=>yG F xs vs hp1
 | [],[],hp=>some hp
 |_,_,_=>none
noncomputable def BN:List Nm→List Value→List (Str×Value)
 |x::xs,v::vs=>(st x,v)::BN xs vs
 |_,_=>[]
noncomputable def CelR (W:Wd)(cs:List (Nm×Nat))(ca:List (Str×Addr)):Prop:=∀ x l,lk cs x=some l→l<W.n∧ca.lookup (st x)=some (W.ρ l)
theorem CelR.mono {W W':Wd}{cs:List (Nm×Nat)}{ca:List (Str×Addr)}(h:W.le W')(x:CelR W cs ca):CelR W' cs ca:=fun y l e=>have q:=x y l e;⟨Nat.lt_of_lt_of_le q.1 h.n,q.2.trans (congrArg some (h.ρ _ q.1).symm)⟩
theorem sZ {α:Type}{y x:Nm}{a:α}{r:List (Nm×α)}{b:α}(e:lk ((y,a)::r) x=some b):(y=x∧a=b)∨(y≠x∧lk r x=some b):=by
 unfold lk at e
 cases q:nb y x with
 |true=>rw[q]at e;exact .inl ⟨iH q,Option.some.inj e⟩
 |false=>rw[q]at e;exact .inr ⟨rL q,e⟩
section
variable {c:Cx}{A:Around}{n:Nat}
theorem mA (f:Str×NameKind→List (Str×Addr)→Sem (ForInStep (List (Str×Addr))))
  (hf:∀ name kind cells,f (name,kind) cells=if kind==.cell then(do let a ← alloc {cls:=.type "cell",data:=.cell none};pure (.yield ((name,a)::cells)))else pure (.yield cells)):
  ∀ (names:aU) (acc:List (Str×Addr)) (cs:List (Nm×Nat)) (hp:List O) (W:Wd) (s:Shared) {Q:List (Str×Addr)→Shared→Prop},Rel c.P W hp s.heap→CelR W cs acc→
   (∀ W' ca s',Rel c.P W' (pM (eV names) cs hp).2 s'.heap→Lat W hp s W' (pM (eV names) cs hp).2 s'→CelR W' (pM (eV names) cs hp).1 ca→Q ca s')→c.wp A (forIn names acc f) Q s
 | [],acc,cs,hp,W,s,_,R,C,h=>by rw[List.forIn_nil];exact wpAny_pure (h W acc s R (.refl ..) C)
 |(name,kind)::r,acc,cs,hp,W,s,Q,R,C,h=>by
  rw[List.forIn_cons,hf,AE]
  cases hk:pN kind with
  |true=>
   have e0:eV ((name,kind)::r)=name.cps.toList::eV r:=by
    show(match pN kind with|true=>_|false=>_)=_
    rw[hk]
   rw[e0]at h
   have z:=R.alloc (o:=.cel none) (ob:=⟨.type "cell",none,.cell none,#[]⟩) (.mk none trivial)
   refine wpAny_bind (wpAny_bind (wpAny_alloc (wpAny_pure (mA f hf r _ ((name.cps.toList,hp.length)::cs) (hp++[O.cel none]) _ {s with heap:=s.heap.push ⟨.type "cell",none,.cell none,#[]⟩} z.1 (fun x l e=>?_) fun W' ca s' R' L' C'=>h W' ca s' R' ((Lat.of (t:=s.toks) z.2).trans L') C'))))
   rcases sZ e with⟨e1,e2⟩|⟨e1,e2⟩
   ·subst e2
    refine⟨R.len▸Nat.lt_succ_self _,?_⟩
    rw[R.push_at,← e1,bA,List.lookup_cons,beq_self_eq_true]
   ·have q:=C.mono (Wd.le_push W s.heap.objs.size) x l e2
    exact⟨q.1,by rw[List.lookup_cons,beq_eq_false_iff_ne.mpr fun e:st x=name=>e1 (by rw[← e];rfl)];exact q.2⟩
  |false=>
   have e0:eV ((name,kind)::r)=eV r:=by
    show(match pN kind with|true=>_|false=>_)=_
    rw[hk]
   rw[e0]at h
   exact wpAny_bind (wpAny_pure (mA f hf r acc cs hp W s R C h))
noncomputable def yH (F:Fx)(x:Nm):NameKind:=match lk F.cs x with
 |some _=>.cell
 |none=>.local
theorem s9 {sc:aU}{F:Fx}{env:Env}(f:Str×Value→PUnit→Sem (ForInStep PUnit))(hf:∀ n v u,f (n,v) u=(do storeName env n v;pure (.yield ⟨⟩))){hp2:List O}{QQ:PUnit→Shared→Prop}:
  ∀ (ps:List Nm) (vs:List V) (vals:List Value) (hp:List O) (W:Wd) (s:Shared),AtF c sc n F hp A W s env→VRs c.P W vs vals→(∀ x∈ps,env.kindOf (st x)=some (yH F x))→yG F ps vs hp=some hp2→
   (∀ W' s',AtF c sc n F hp2 A W' s' env→Lat W hp s W' hp2 s'→QQ ⟨⟩ s')→c.wp A (forIn (BN ps vals) ⟨⟩ f) QQ s
 | [],[],_,hp,W,s,z,hv,_,hb,h=>by
  obtain rfl:_=[]:=hv
  show wpAny _ _ (forIn [] _ f) _ _ _
  rw[List.forIn_nil];exact wpAny_pure (h W s (Option.some.inj hb▸z) (Option.some.inj hb ▸ .refl ..))
 |x::ps,v::vs,_,hp,W,s,z,.mk (a:=u) (l:=r) hu hr,hk,hb,h=>by
  show wpAny _ _ (forIn ((st x,u)::BN ps r) _ f) _ _ _
  rw[List.forIn_cons,hf]
  have hx:=hk x (.head _)
  obtain⟨hp1,e1,hb⟩:=bS hb
  have step:c.wp A (storeName env (st x) u) (Post c u8 W hp s () hp1) s:=by
   unfold yH at hx
   cases e:lk F.cs x with
   |some l=>rw[e]at e1 hx;exact BL z hx hu e1
   |none=>rw[e]at e1 hx;exact sY z hx hu e1
  exact wpAny_bind (wpAny_bind (go z.a step fun W' _ s' a L _=>wpAny_pure (s9 f hf ps vs r hp1 W' s' (z.next L a) (R2.imp (fun _ _=>VR.mono L.le) hr) (fun y hy=>hk y (.tail _ hy)) hb fun W2 s2 z2 L2=>h W2 s2 z2 (L.trans L2))))
 | [],_::_,_,_,_,_,_,_,_,hb,_=>nomatch hb
 |_::_,[],_,_,_,_,_,_,_,hb,_=>nomatch hb
structure Fn where
 params:List Nm
 dflt:List V
 cells:List Nm
 names:aU
 body:List Stmt
noncomputable def Fn.fill (F:Fn)(args:List V):List V:=args++F.dflt.drop (F.dflt.length - (F.params.length-args.length))
structure FnI (K:Frag) (fd:FuncData) (F:Fn):Prop where
 code:codeIn K fd.code fd.qualname=true
 body:fd.body=.stmts F.body
 clo:fd.closure=[]
 glob:fd.globals=mainGlobals
 blt:fd.builtins=builtinsNs
 co:fd.scope.isCoroutine=false
 gen:fd.scope.isGenerator=false
 kind:fd.scope.kind=.function
 names:fd.scope.names=F.names
 cells:eV F.names=F.cells
 kinds:∀ x∈F.params,F.names.lookup (st x)=some (match hW x F.cells with|true=>.cell|false=>.local)
inductive FnD (P:Params) (K:Frag) (a:Addr) (F:Fn):Prop
 |mk (o:Obj) (fd:FuncData) (at_:K.lookup a=some o) (d:o.data=.func fd) (fn:fnIn K a=true) (i:FnI K fd F) (dv:List Value) (r:VRs P (W0 K) F.dflt dv)
  (bind:∀ (s:Shared) (vals:List Value),K.In s.heap→vals.length≤F.params.length→F.params.length≤vals.length+F.dflt.length→BindsTo s fd ⟨vals,[]⟩ (BN F.params (vals++dv.drop (F.dflt.length - (F.params.length-vals.length)))))
theorem yI (x:Nm):∀ (cells:List Nm) (cs:List (Nm×Nat)) (hp:List O),(lk (pM cells cs hp).1 x).isSome=(hW x cells||(lk cs x).isSome)
 | [],_,_=>rfl
 |y::r,cs,hp=>(yI x r _ _).trans (by
  show(hW x r||(match nb y x with|true=>some hp.length|false=>lk cs x).isSome)=((nb y x||hW x r)||_)
  cases nb y x with
  |true=>exact(Bool.or_true _).trans rfl
  |false=>rfl)
noncomputable def yJ (F:Fn)(args:List V)(hp:List O):Option (Fx×List O):=
 let z:=pM F.cells [] (hp++[.fr []])
 (yG ⟨hp.length,z.1⟩ F.params (F.fill args) z.2).map fun hp1=>(⟨hp.length,z.1⟩,hp1)
inductive Fl where|next|brk|cont|ret (v:V)
noncomputable def Ji (P:Params)(W:Wd):Fl→Flow→Prop
 |.next,f=>f=.next
 |.brk,f=>f=.brk
 |.cont,f=>f=.cont
 |.ret v,f=>∃ u,f=.ret u∧VR P W v u
noncomputable abbrev Cx.FT (c:Cx):RT Fl Flow:=Ji c.P
noncomputable def KY:Fl→Option V
 |.next=>some (.dat .non)
 |.ret v=>some v
 |_=>none
noncomputable def UJ (f:Flow):Value:=match f with
 |.ret v=>v
 |_=>.none
theorem Gm {P:Params}{W:Wd}{fl:Fl}{v:V}{f:Flow}(e:KY fl=some v)(x:Ji P W fl f):VR P W v (UJ f):=by
 cases fl with
 |next=>obtain rfl:f=_:=x;exact Option.some.inj e▸rfl
 |ret w=>obtain⟨u,rfl,r⟩:=x;exact Option.some.inj e▸r
 |_=>cases e
inductive RetOk (p:Value→Shared→Prop) (s:Shared):Result→Prop
 |mk (u:Value) (h:p u s):RetOk p s (.ok (.ret u))
structure CallOk (c:Cx) (n f:Nat) (args:List V) (hp:List O) (v:V) (hp':List O):Prop where
 fn:fnIn c.K f=true
 run:∀ A W s vals,At c n A W hp s→VRs c.P W args vals→codeAny c.M A (.call (.ref f) ⟨vals,[]⟩) (fun r s'=>RetOk (Post c c.VT W hp s v hp') s' r) s
theorem tA {a:Nat}{F:Fn}{args:List V}{hp hp1 hp2:List O}{X:Fx}{fl:Fl}{v:V}(D:FnD c.P c.K a F)(h1:Nat.ble args.length F.params.length=true)(h2:Nat.ble F.params.length (args.length+F.dflt.length)=true)
  (en:yJ F args hp=some (X,hp1))(b:Run c F.names n X hp1 (execs F.body) c.FT fl hp2)(rv:KY fl=some v):CallOk c (n+1) a args hp v hp2:=match D with
 |.mk o fd ao d fn I dv dr bind=>⟨fn,fun A W s vals z hv=>by
  have h1:=Nat.le_of_ble_eq_true h1
  have h2:=Nat.le_of_ble_eq_true h2
  rw[← R2.len hv]at h1 h2
  have KI:=z.In
  refine codeAny_call_function z.room.rl (KI _ _ ao) d I.co I.gen I.body (codeRec_of KI I.code) (wpAny_with_toks (Nat.le_refl s.toks) (bind s vals KI h1 h2 _ _ _ _ fun _=>?_))
  rw[I.clo,I.glob,I.blt]
  obtain⟨hp',e1,e2⟩:=c9 en
  cases e2
  have hc:=I.cells
  rw[← I.names]at hc
  have hv2:VRs c.P W (F.fill args) (vals++dv.drop (F.dflt.length - (F.params.length-vals.length))):=by
   unfold Fn.fill;rw[← R2.len hv];exact R2.app hv (R2.imp (fun _ _=>VR.mono z.le0) (R2.drop _ dr))
  have kd:∀ x∈F.params,fd.scope.names.lookup (st x)=some (yH ⟨hp.length,(pM F.cells [] (hp++[.fr []])).1⟩ x):=fun x m=>by
   rw[I.names,I.kinds x m]
   have q:=yI x F.cells [] (hp++[.fr []])
   unfold yH
   cases y:lk (pM F.cells [] (hp++[.fr []])).1 x with
   |some l=>rw[y]at q;rw[show hW x F.cells=true from((Bool.or_false _).symm.trans q.symm)]
   |none=>rw[y]at q;rw[show hW x F.cells=false from((Bool.or_false _).symm.trans q.symm)]
  simp only[newFunctionEnv,Option.isSome_none,Bool.false_eq_true,if_false]
  have y:=z.rel.alloc (o:=.fr []) (ob:=⟨.type "frame",none,.dict #[],#[]⟩) (.mk "frame" [] 0 rfl)
  have L0:Lat W hp s _ _ {s with heap:=_}:=.of (t:=s.toks) y.2
  refine wpAny_mono (E:=no) (wpAny_bind (wpAny_alloc (wpAny_bind (wpAny_with_toks (n:=s.toks) (Nat.le_refl _) (wpAny_mono (E:=no) (mA (c:=c) (A:=A.in1) _ (fun name kind cells=>rfl) fd.scope.names [] [] (hp++[.fr []]) _ {s with heap:=s.heap.push ⟨.type "frame",none,.dict #[],#[]⟩} y.1 (fun x l e=>nomatch e)
   fun W1 ca s1 R1 L1 C1 t1=>?_) (fun _ _ q=>q) fun _ _ f=>f.elim))))) (fun _ _ q=>q) fun _ _ f=>f.elim
  rw[hc]at R1 L1 C1
  have L2:=L0.trans L1
  have fr:FrR W1 ⟨hp.length,(pM F.cells [] (hp++[.fr []])).1⟩ {scope:=fd.scope,locals:=s.heap.objs.size,globals:=mainGlobals,cells:=ca,qual:=fd.qualname++Str.ofString ".<locals>.",func:=some a,code:=fd.code,frame:=some s.heap.objs.size,builtins:=builtinsNs}:=
   ⟨Nat.lt_of_lt_of_le (by rw[y.1.len,List.length_append];exact Nat.lt_succ_self _) L1.le.n,((L1.le.ρ _ (by rw[y.1.len,List.length_append];exact Nat.lt_succ_self _)).trans (z.rel.push_at _)).symm,C1,I.kind,rfl,rfl⟩
  have z1:AtF c fd.scope.names n ⟨hp.length,(pM F.cells [] (hp++[.fr []])).1⟩ (pM F.cells [] (hp++[.fr []])).2 A.in1 W1 s1 _:=⟨(z.next L2 R1 t1).to z.room.in1,fr,rfl⟩
  refine wpAny_bind (s9 (hp2:=hp1) _ (fun _ _ _=>rfl) F.params (F.fill args) _ _ W1 s1 z1 (R2.imp (fun _ _=>VR.mono L2.le) hv2) kd e1 fun W2 s2 z2 L3=>wpAny_pure ⟨z2.a.nolimit,?_⟩)
  refine codeAny_func (wpAny_mono (b _ W2 s2 _ ⟨z2.a.to z.room.deeper,z2.f,I.names⟩) (fun f s3 p=>?_) fun _ _ f=>f.elim)
  exact match p with
   |.mk W' r l x=>.mk _ (.mk W' r ((L2.trans L3).trans l) (Gm rv x))⟩
noncomputable def BO:List Nat→V→List O→Option (V×List O)
 | [],v,hp=>some (v,hp)
 |l::ls,v,hp=>(g9 l hp).bind fun d=>BO ls (v.mp (sb l d) id) ((hp.set l .gone).map (O.mp (sb l d) id))
noncomputable def rN (k:Nat)(τ:List Nat)(v:V)(hp:List O):Option (V×List O):=match KU (List.range k++τ)&&(v.cl (cA (List.range k++τ))&&cL (List.range k++τ) hp)with
 |true=>some (v.ren (kr (List.range k++τ)),kept (List.range k++τ) hp)
 |false=>none
noncomputable def g5 (k:Nat)(fz τ:List Nat)(v:V)(hp:List O):Option (V×List O):=(BO fz v hp).bind fun p=>rN k τ p.1 p.2
noncomputable def Tj (W:Wd)(hp:List O)(W':Wd)(hp':List O):Prop:=∀ a,¬ Live W hp a→W.fz a=none→¬ Live W' hp' a∧W'.fz a=none
inductive Vr (P:Params) (W0:Wd) (hp0:List O) (h0 h:Heap) (Wc:Wd) (hpc:List O) (v:V) (u:Value) (hp:List O):Prop
 |mk (W:Wd) (R:Rel P W hp h) (E:Ext W0 hp0 h0 W hp h) (x:VR P W v u) (C:Tj Wc hpc W hp)
theorem vB {P:Params}{W0:Wd}{hp0:List O}{h0 h:Heap}{u:Value}{Wc:Wd}{hpc:List O}:∀ (fz:List Nat) {v:V} {hp:List O} {p:V×List O},BO fz v hp=some p→Vr P W0 hp0 h0 h Wc hpc v u hp→Vr P W0 hp0 h0 h Wc hpc p.1 u p.2
 | [],_,_,_,e,x=>Option.some.inj e▸x
 |_::ls,v,_,_,e,.mk W R E x C=>(bS e).elim fun d q=>match BF R q.1 with
  |.mk W' R' E' m C'=>vB ls q.2 (.mk W' R' (E.trans E') (VR.go m (V.cl_all v) x) fun a n z=>have y:=C a n z;C' a y.1 y.2)
theorem pO {P:Params}{W0:Wd}{hp0:List O}{h0 h:Heap}{u:Value}{Wc:Wd}{hpc:List O}{fz τ:List Nat}{v:V}{hp:List O}{p:V×List O}(e:g5 W0.n fz τ v hp=some p)(x:Vr P W0 hp0 h0 h Wc hpc v u hp):Vr P W0 hp0 h0 h Wc hpc p.1 u p.2:=by
 obtain⟨q,e1,e2⟩:=bS e
 unfold rN at e2
 split at e2
 ·rename_i g
  have g:=Bool.and_eq_true_iff.mp g
  have g2:=Bool.and_eq_true_iff.mp g.2
  exact Option.some.inj e2▸match vB fz e1 x with
   |.mk W R E x C=>.mk _ (R.keep g.1 g2.2) (E.keep R g2.2) (VR.go (pJ P W _) g2.1 x) fun a n z=>have y:=C a n z;⟨fun l=>y.1 (From.live (kZ R g2.2) l),y.2⟩
 ·cases e2
theorem dF {f:Nat}{args:List V}{hp hp2:List O}{v:V}{fz τ:List Nat}{p:V×List O}(h:CallOk c n f args hp v hp2)(e:g5 hp.length fz τ v hp2=some p):CallOk c n f args hp p.1 p.2:=
 ⟨h.fn,fun A W s vals z hv=>codeAny_mono (h.run A W s vals z hv) fun r s' q=>match q with
  |.mk u (.mk W' R' L x)=>match pO (z.rel.len.symm▸e:g5 W.n fz τ v hp2=some p) (.mk W' R' L.e x fun _ n z=>⟨n,z⟩)with
   |.mk W2 R2 E2 x2 _=>.mk u (.mk W2 R2 ⟨E2,L.g,L.o⟩ x2)⟩
noncomputable def Jj (σ:List Nat)(args:List V)(hp:List O):Bool:=(KU σ&&σ.all fun l=>Nat.blt l hp.length)&&(args.all (V.cl (cA σ))&&cL σ hp)
theorem mB {m f:Nat}{args:List V}{hp hpS:List O}{v:V}{σ:List Nat}(g:Jj σ args hp=true)(l:Nat.ble m n=true)(h:CallOk c m f (args.map (V.ren (kr σ))) (kept σ hp) v hpS):CallOk c n f args hp (v.ren (rn σ hp.length)) (fO σ hp hpS):=
 have g:=Bool.and_eq_true_iff.mp g
 have g1:=Bool.and_eq_true_iff.mp g.1
 have g2:=Bool.and_eq_true_iff.mp g.2
 ⟨h.fn,fun A W s vals z hv=>codeAny_mono (h.run A (kD W σ) s vals ⟨z.room.less (Nat.le_of_ble_eq_true l),z.rel.keep g1.1 g2.2,z.kin,z.tk⟩ (VRs.go (pJ c.P W σ) g2.1 hv)) fun r s' q=>match q with
  |.mk u (.mk WS R' L x)=>match Gd z.rel (fun l m=>Nat.le_of_ble_eq_true (List.all_eq_true.mp g1.2 l m)) g2.2 R' L.e with
   |.mk W' R2 E2 m=>.mk u (.mk W' R2 ⟨E2,L.g,L.o⟩ (VR.go m (V.cl_all v) x))⟩
end
end
section
open PySem.SeqAt
inductive Mb (p:Prop):Type where
 |ok (h:p)|no
namespace Mb
noncomputable def yes {p:Prop}:Mb p→Bool
 |.ok _=>true
 |.no=>false
theorem out {p:Prop}:∀ {x:Mb p},x.yes=true→p
 |.ok h,_=>h
noncomputable def gvn {p:Prop}(b:Bool)(f:b=true→Mb p):Mb p:=match b,f with
 |true,f=>f rfl
 |false,_=>.no
noncomputable def tkn {p q:Prop}(x:Mb q)(f:q→Mb p):Mb p:=match x with
 |.ok h=>f h
 |.no=>.no
end Mb
noncomputable def rB:Int→Int→Bool
 |.ofNat m,.ofNat n=>Nat.beq m n
 |.negSucc m,.negSucc n=>Nat.beq m n
 |_,_=>false
noncomputable def kG:Int→Int→Bool
 |.ofNat m,.ofNat n=>Nat.blt m n
 |.negSucc _,.ofNat _=>true
 |.negSucc m,.negSucc n=>Nat.blt n m
 |.ofNat _,.negSucc _=>false
theorem Gn (m n:Nat):Nat.beq m n=decide (m=n):=(Bool.eq_iff_iff.mpr (by rw[decide_eq_true_eq];exact⟨Nat.eq_of_beq_eq_true,fun e=>e▸Nat.beq_refl m⟩))
theorem eQ (a b:Int):(a==b)=rB a b:=by
 cases a <;>cases b
 ·exact(decide_eq_decide.mpr ⟨Int.ofNat.inj,congrArg _⟩).trans (Gn _ _).symm
 ·exact decide_eq_false nofun
 ·exact decide_eq_false nofun
 ·exact(decide_eq_decide.mpr ⟨Int.negSucc.inj,congrArg _⟩).trans (Gn _ _).symm
theorem KZ (m n:Nat):Nat.blt m n=decide (m<n):=(Bool.eq_iff_iff.mpr (by rw[decide_eq_true_eq];exact iff_of_eq Nat.ble_eq))
theorem f8 (a b:Int):decide (a<b)=kG a b:=by
 cases a with
 |ofNat m=>cases b with
  |ofNat n=>exact(decide_eq_decide.mpr Int.ofNat_lt).trans (KZ _ _).symm
  |negSucc n=>exact decide_eq_false (Int.not_lt.mpr (Int.le_of_lt (Int.lt_of_lt_of_le (Int.negSucc_lt_zero n) (Int.natCast_nonneg m))))
 |negSucc m=>cases b with
  |ofNat n=>exact decide_eq_true (Int.lt_of_lt_of_le (Int.negSucc_lt_zero m) (Int.natCast_nonneg n))
  |negSucc n=>exact(decide_eq_decide.mpr (by rw[Int.negSucc_eq,Int.negSucc_eq];omega)).trans (KZ _ _).symm
theorem BP (a b:Int):decide (a≤b)= !kG b a:=by rw[← f8,← decide_not];exact decide_eq_decide.mpr Int.not_lt.symm
noncomputable abbrev lim:Nat:=1048576
noncomputable def gH:Int→Bool
 |.ofNat n=>Nat.ble n lim
 |.negSucc n=>Nat.ble n lim
theorem pQ {k:Int}(h:gH k=true): -(2 ^ 63)≤k∧k<2 ^ 63:=by
 cases k with
 |ofNat n=>have:=Nat.le_of_ble_eq_true h;exact⟨Int.le_trans (by decide) (Int.natCast_nonneg n),Int.lt_of_le_of_lt (Int.ofNat_le.mpr this) (by decide)⟩
 |negSucc n=>have:n≤1048576:=Nat.le_of_ble_eq_true h;rw[Int.negSucc_eq];omega
theorem d9 {n:Nat}(h:Nat.ble n lim=true):n≤sizeLine:=Nat.le_trans (Nat.le_of_ble_eq_true h) (by decide)
theorem oP {n:Nat}(h:Nat.ble n lim=true):(n:Int)<2 ^ 63:=Int.lt_of_le_of_lt (Int.ofNat_le.mpr (Nat.le_of_ble_eq_true h)) (by decide)
noncomputable def GS:Bool→Bool→Bool
 |true,b=>b
 |false,b=> !b
theorem lQ:∀ a b:Bool,(a==b)=GS a b:=by decide
noncomputable def GU:D→D→Bool
 |.non,.non=>true
 |.boo a,.boo b=>GS a b
 |.int a,.int b=>rB a b
 |.str a,.str b=>nb a b
 |_,_=>false
theorem BQ (x y:Nm):(st x==st y)=nb x y:=u7 x y 0
theorem Ka {A:Around}{s:Shared}{u v:Value}{k k':Bool}(e:k=k')(a:EqAt A s u v k)(b:RcAt A s u v k):EqAt A s u v k'∧RcAt A s u v k':=e ▸ ⟨a,b⟩
structure SEq (P:Params) (a b:D):Prop where
 ok:∀ fz A s u v,DR P fz a u→DR P fz b v→EqAt A s u v (GU a b)∧RcAt A s u v (GU a b)
noncomputable def Kb (P:Params):(a b:D)→Mb (SEq P a b)
 |.non,.non=>.ok ⟨fun _ _ _ _ _ ha hb=>by rw[show _=Value.none from ha,show _=Value.none from hb];exact⟨.same _,.none_none⟩⟩
 |.non,.str _=>.ok ⟨fun _ _ _ u _ ha (.mk t)=>by rw[show u=Value.none from ha];exact⟨.none_str _ _,.none_str _ _⟩⟩
 |.str _,.non=>.ok ⟨fun _ _ _ _ v (.mk t) hb=>by rw[show v=Value.none from hb];exact⟨.str_none _ _,.str_none _ _⟩⟩
 |.boo a,.boo b=>.ok ⟨fun _ _ _ u v ha hb=>by rw[show u=Value.bool a from ha,show v=Value.bool b from hb];exact Ka (lQ a b) (.bool_bool _ _) (.bool_bool _ _)⟩
 |.int a,.int b=>.ok ⟨fun _ _ _ _ _ (.mk _) (.mk _)=>Ka (eQ a b) (.int_int _ _ _ _) (.int_int _ _ _ _)⟩
 |.str a,.str b=>.ok ⟨fun _ _ _ _ _ (.mk _) (.mk _)=>Ka (BQ a b) (.str_str _ _ _ _) (.str_str _ _ _ _)⟩
 |_,_=>.no
noncomputable def DOk (P:Params)(n:Nat)(a b:D):Prop:=∀ fz A s u v,(∀ a o,fz a=some o→s.heap.get? a=some o)→DR P fz a u→DR P fz b v→A.units+n<cLine→EqAt A s u v true∧RcAt A s u v true
theorem R2.zip {α β γ δ:Type}{R:α→β→Prop}{S:α→γ→Prop}{T:β→δ→Prop}{E:γ→δ→Prop}(k:∀ x y u v,R x y→S x u→T y v→E u v):∀ {xs:List α} {ys:List β} {us:List γ} {vs:List δ},R2 R xs ys→R2 S xs us→R2 T ys vs→R2 E us vs
 | [],_,_,_,h,a,b=>by obtain rfl:_=[]:=h;obtain rfl:_=[]:=a;exact b
 |_::_,_,_,_,.mk h r,.mk a q,.mk b t=>.mk (k _ _ _ _ h a b) (R2.zip k r q t)
theorem R2.get {α β:Type}{R:α→β→Prop}:∀ {xs:List α} {ys:List β} {j:Nat} (h1:j<xs.length) (h2:j<ys.length),R2 R xs ys→R xs[j] ys[j]
 |_::_,_,0,_,_,.mk h _=>h
 |_::_,_,j+1,h1,h2,.mk _ r=>R2.get (j:=j) (Nat.lt_of_succ_lt_succ h1) (Nat.lt_of_succ_lt_succ h2) r
theorem BR {A:Around}{s:Shared}{l l':Addr}(h:RcAt A s (.ref l) (.ref l') true):EqAt A s (.ref l) (.ref l') true∧RcAt A s (.ref l) (.ref l') true:=⟨by
 by_cases q:l=l'
 ·subst q;exact .same _
 ·exact .of_refs q h,h⟩
section
variable {P:Params}{n:Nat}{xs ys:List D}
theorem vC {fz:Addr→Option Obj}{A:Around}{s:Shared}{vs vs':List Value}(h:R2 (DOk P n) xs ys)(hh:∀ a o,fz a=some o→s.heap.get? a=some o)(d:DRs P fz xs vs)(d':DRs P fz ys vs')(hu:A.units+(n+1)<cLine):
  vs'.length=vs.length∧∀ j (h1:j<vs.toArray.size) (h2:j<vs'.toArray.size),EqAt A.in1 s vs.toArray[j] vs'.toArray[j] true:=
 have z:R2 (fun u v=>EqAt A.in1 s u v true) vs vs':=R2.zip (fun _ _ _ _ q a b=>(q fz A.in1 s _ _ hh a b (by rw[Nat.add_comm n 1,← Nat.add_assoc]at hu;exact hu)).1) h (DRs.r2.mp d) (DRs.r2.mp d')
 ⟨R2.len z,fun _ h1 h2=>R2.get h1 h2 z⟩
theorem Jk (n:Nat):(List.range n).all (fun _=>true)=true:=List.all_eq_true.mpr fun _ _=>rfl
theorem DOk.tup (h:R2 (DOk P n) xs ys):DOk P (n+1) (.tup xs) (.tup ys):=fun _ _ _ _ _ hh (.mk _ vs _ f d) (.mk _ vs' _ f' d') hu=>
 have z:=vC h hh d d' hu
 BR (by
  have t:=RcAt.tuples (e:=fun _=>true) ⟨_,hh _ _ f,rfl,_,rfl⟩ ⟨_,hh _ _ f',rfl,_,rfl⟩ (Nat.lt_of_le_of_lt (Nat.le_add_right _ _) hu) z.2
  rw[Jk,List.size_toArray,List.size_toArray,z.1,beq_self_eq_true]at t
  exact t)
theorem DOk.lst (h:R2 (DOk P n) xs ys):DOk P (n+1) (.lst xs) (.lst ys):=fun _ _ _ _ _ hh (.mk _ vs _ f d) (.mk _ vs' _ f' d') hu=>
 have z:=vC h hh d d' hu
 BR (by
  have t:=RcAt.lists (e:=fun _=>true) ⟨_,hh _ _ f,rfl,_,rfl⟩ ⟨_,hh _ _ f',rfl,_,rfl⟩ (by rw[List.size_toArray,List.size_toArray,z.1]) (Nat.lt_of_le_of_lt (Nat.le_add_right _ _) hu) z.2
  rw[Jk]at t
  exact t)
end
noncomputable def Go {R:D→D→Prop}(f:∀ a b,Mb (R a b)):(xs ys:List D)→Mb (R2 R xs ys)
 | [],[]=>.ok rfl
 |x::xs,y::ys=>(f x y).tkn fun h=>(Go f xs ys).tkn fun r=>.ok (.mk h r)
 |_,_=>.no
noncomputable def kH (P:Params):(n:Nat)→(a b:D)→Mb (DOk P n a b)
 |n+1,.tup xs,.tup ys=>(Go (kH P n) xs ys).tkn fun h=>.ok (DOk.tup h)
 |n+1,.lst xs,.lst ys=>(Go (kH P n) xs ys).tkn fun h=>.ok (DOk.lst h)
 |_,a,b=>(Kb P a b).tkn fun h=>.gvn (GU a b) fun e=>.ok fun fz A s u v _ ha hb _=>e▸h.ok fz A s u v ha hb
noncomputable def rd:Value→D
 |.bool b=>.boo b
 |.int i _=>.int i
 |.str s _=>.str s.cps.toList
 |_=>.non
noncomputable def fX (x:D)(ds:List D):Bool:=ds.any fun d=>GU d x
noncomputable def Kc (P:Params)(x:D):(ds:List D)→Mb (∀ fz A s us xv,DR P fz x xv→DRs P fz ds us→(∀ y∈us,EqAt A s y xv (GU (rd y) x))∧(us.any fun y=>GU (rd y) x)=fX x ds)
 | []=>.ok fun _ _ _ us _ _ h=>by obtain rfl:us=[]:=h;exact⟨nofun,rfl⟩
 |d::ds=>(Kb P d x).tkn fun h=>(Kc P x ds).tkn fun r=>.gvn (match d with|.str _=>true|.int _=>true|_=>false) fun sc=>.ok fun fz A s _ xv hx (.mk (a:=u) a q)=>by
  have e:rd u=d:=by
   cases d with
   |str y=>exact match u,(a:IsS y u)with|_,.mk _=>rfl
   |int i=>exact match u,(a:IsI i u)with|_,.mk _=>rfl
   |_=>cases sc
  obtain⟨r1,r2⟩:=r fz A s _ xv hx q
  refine⟨fun y hy=>?_,?_⟩
  ·rcases List.mem_cons.mp hy with rfl|hy
   ·rw[e];exact(h.ok fz A s _ xv a hx).1
   ·exact r1 y hy
  ·rw[List.any_cons,e,r2];rfl
noncomputable def yK:Nm→Nm→Bool
 | [],[]=>false
 | [],_::_=>true
 |_::_,[]=>false
 |a::x,b::y=>Nat.blt a b||(Nat.beq a b&&yK x y)
theorem wU:∀ x y:Nm,decide (x<y)=yK x y
 | [],[]=>rfl
 | [],_::_=>decide_eq_true List.Lex.nil
 |_::_,[]=>decide_eq_false nofun
 |a::x,b::y=>by
  show _=(Nat.blt a b||(Nat.beq a b&&yK x y))
  rw[← wU x y,KZ,Gn,← Bool.decide_and,← Bool.decide_or]
  exact decide_eq_decide.mpr List.cons_lt_cons_iff
set_option genCtorIdx true in
inductive Cm where|eq|ne|lt|le|gt|ge|isn|isnotn|isin|notin
noncomputable def e9:Cm→CmpOp
 |.eq=>.Eq|.ne=>.NotEq|.lt=>.Lt|.le=>.LtE|.gt=>.Gt|.ge=>.GtE|.isn=>.Is|.isnotn=>.IsNot|.isin=>.In|.notin=>.NotIn
noncomputable abbrev tB:RT Bool Value:=fun _ b u=>u=.bool b
noncomputable def wV:D→Bool
 |.non=>true
 |_=>false
noncomputable def Kd:D→Bool
 |.non=>true
 |.boo _=>true
 |.int _=>true
 |.str _=>true
 |_=>false
theorem vD {P:Params}{fz:Addr→Option Obj}{d:D}{u:Value}(h:DR P fz d u)(g:Kd d=true):(u==.none)=wV d:=by
 cases d with
 |non=>rw[show u=.none from h];rfl
 |boo b=>rw[show u=.bool b from h];rfl
 |int i=>exact match u,(h:IsI i u)with|_,.mk _=>rfl
 |str x=>exact match u,(h:IsS x u)with|_,.mk _=>rfl
 |_=>cases g
section
variable {c:Cx}{n:Nat}{A:Around}{W:Wd}{hp:List O}{s:Shared}
theorem Room.eight (h:Room n A):A.units+8<cLine:=Nat.lt_of_le_of_lt (Nat.add_le_add_right (Nat.le_trans (Nat.le_add_right _ _) h.un) 8) (by decide)
theorem bo (z:At c n A W hp s)(b:Bool){k:Bool}(e:b=k):Post c tB W hp s k hp (.bool b) s:=.here z (congrArg Value.bool e)
noncomputable def wW (c:Cx)(n:Nat)(hp:List O):(op:Cm)→(a b:V)→Option (Rs Bool fun k hp'=>bZ c n hp (compareOp (e9 op)) tB a b k hp')
 |.eq,.dat x,.dat y=>match Kb c.P x y with
  |.ok h=>some ⟨GU x y,hp,true,fun _ _ _ _ _ _ z hu hv=>(h.ok _ _ _ _ _ hu hv).2 _ _ _ _ (bo z _ rfl)⟩
  |.no=>some ⟨true,hp,(kH c.P 8 x y).yes,fun g _ _ _ _ _ z hu hv=>(Mb.out g _ _ _ _ _ z.rel.fz hu hv z.room.eight).2 _ _ _ _ (bo z _ rfl)⟩
 |.ne,.dat (.int i),.dat (.int j)=>some ⟨!rB i j,hp,true,fun _ _ _ _ _ _ z (.mk _) (.mk _)=>RcNeAt.int_int _ _ _ _ _ _ _ _ (bo z _ (by rw[eQ]))⟩
 |.lt,.dat (.int i),.dat (.int j)=>some ⟨kG i j,hp,true,fun _ _ _ _ _ _ z (.mk _) (.mk _)=>PySem.P.lt_int (bo z _ (f8 i j))⟩
 |.gt,.dat (.int i),.dat (.int j)=>some ⟨kG j i,hp,true,fun _ _ _ _ _ _ z (.mk _) (.mk _)=>PySem.P.gt_int (bo z _ (f8 j i))⟩
 |.le,.dat (.int i),.dat (.int j)=>some ⟨!kG j i,hp,true,fun _ _ _ _ _ _ z (.mk _) (.mk _)=>PySem.P.le_int (bo z _ (BP i j))⟩
 |.ge,.dat (.int i),.dat (.int j)=>some ⟨!kG i j,hp,true,fun _ _ _ _ _ _ z (.mk _) (.mk _)=>PySem.P.ge_int (bo z _ (BP j i))⟩
 |.le,.dat (.str x),.dat (.str y)=>some ⟨!yK y x,hp,true,fun _ _ _ _ _ _ z (.mk _) (.mk _)=>PySem.P.le_str (bo z _ (congrArg (!·) (wU y x)))⟩
 |.isn,.dat x,.dat .non=>some ⟨wV x,hp,Kd x,fun g _ _ _ _ v z hu hv=>(show v=.none from hv)▸is_none (bo z _ (vD hu g))⟩
 |.isnotn,.dat x,.dat .non=>some ⟨!wV x,hp,Kd x,fun g _ _ _ _ v z hu hv=>(show v=.none from hv)▸isNot_none (bo z _ (congrArg (!·) (vD hu g)))⟩
 |.isin,.dat x,.dat (.tup ds)=>some ⟨fX x ds,hp,(Kc c.P x ds).yes,fun g A _ s _ _ z hu (.mk _ vs _ f d)=>have m:=Mb.out g _ A.in1 s _ _ hu d;in_tupleAt (fun y=>GU (rd y) x) ⟨_,z.rel.fz _ _ f,rfl,_,rfl⟩ (fun y hy=>m.1 y (List.mem_toArray.mp hy)) (bo z _ (List.any_toArray.trans m.2))⟩
 |.isin,.dat (.str x),.dat (.str y)=>some ⟨Txt.contains (st y) (st x),hp,true,fun _ _ _ _ _ _ z (.mk _) (.mk _)=>SB.contains (bo z _ rfl)⟩
 |.notin,.dat (.str x),.dat (.str y)=>some ⟨!Txt.contains (st y) (st x),hp,true,fun _ _ _ _ _ _ z (.mk _) (.mk _)=>SB.notContains (bo z _ rfl)⟩
 |.notin,.dat x,.dat (.tup ds)=>some ⟨!fX x ds,hp,(Kc c.P x ds).yes,fun g A _ s _ _ z hu (.mk _ vs _ f d)=>have m:=Mb.out g _ A.in1 s _ _ hu d;notIn_tupleAt (fun y=>GU (rd y) x) ⟨_,z.rel.fz _ _ f,rfl,_,rfl⟩ (fun y hy=>m.1 y (List.mem_toArray.mp hy)) (bo z _ (congrArg (!·) (List.any_toArray.trans m.2)))⟩
 |_,_,_=>none
end
end
section
theorem SH (x:Str)(v:Value):Value.isStrOf x v=v.isStr x:=by cases v <;>rfl
noncomputable abbrev SK (c:Cx):=PySem.strKind c.prog c.w
section
variable {c:Cx}{W:Wd}{h:Heap}{a:Addr}
theorem Ent.kn {x:Nm}{R:Value→Prop}{e:DictEntry}:Ent c.P x R e→Value.isStrOf (st x) e.key=true∧e.hash=hashStr c.w (st x)
 |.mk _ t h k _=>⟨by rw[k];exact beq_self_eq_true _,h⟩
theorem ER.kn:∀ {es:List (Nm×V)} {en:List DictEntry},ER c.P W es en→∀ e∈en,∃ k,Value.isStrOf k e.key=true∧e.hash=hashStr c.w k
 | [],_,h,_,m=>nomatch ((h:_=[])▸m)
 |_::_,_,.mk a r,e,m=>(List.mem_cons.mp m).elim (fun q=>⟨_,q▸a.kn⟩) fun q=>ER.kn r e q
theorem ER.keysOf {es:List (Nm×V)}{en:List DictEntry}(E:ER c.P W es en):PySem.KeysOf (SK c) en.toArray:=fun e m=>E.kn e (List.mem_toArray.mp m)
theorem Ke {en:List DictEntry}{k:Nat}{es:List (Nm×V)}(E:ER c.P W es en)(g:h.get? a=some ⟨.type "dict",none,.dict en.toArray k,#[]⟩):h.MapOf (SK c) a fun k=>findBy Value.isStrOf en.toArray k:=⟨_,_,k,g,⟨rfl,rfl,rfl⟩,rfl,E.keysOf,fun _=>rfl⟩
theorem Gp {en:List DictEntry}{x:Nm}{u:Value}(e:rA (st x) en=some u):findBy Value.isStrOf en.toArray (st x)=some u:=by
 unfold findBy
 rw[List.find?_toArray,funext fun e:DictEntry=>SH (st x) e.key]
 exact(l0 _ _).trans e
noncomputable abbrev KR (P:Params)(W:Wd)(p:Nm×V)(q:Str×Value):Prop:=q.1=st p.1∧VR P W p.2 q.2
theorem KR.keys:∀ {es:List (Nm×V)} {ks:List (Str×Value)},R2 (KR c.P W) es ks→ks.map (·.1)=(es.map (·.1)).map st
 | [],_,h=>by obtain rfl:_=[]:=h;rfl
 |_::_,_,.mk a r=>by rw[List.map_cons,List.map_cons,List.map_cons,a.1,KR.keys r]
theorem ER.rows:∀ {es:List (Nm×V)} {en:List DictEntry},ER c.P W es en→∃ ks,R2 (KR c.P W) es ks∧Pairs (SK c) en ks
 | [],_,h=>by obtain rfl:_=[]:=h;exact⟨[],rfl,.nil⟩
 |(x,_)::_,_,.mk (a:=e) a r=>(ER.rows r).elim fun ks q=>⟨(st x,e.val)::ks,.mk ⟨rfl,a.val⟩ q.1,.cons a.kn.1 rfl q.2⟩
theorem yL:∀ {es:List (Nm×V)} {en:List DictEntry} {ks:List (Str×Value)},R2 (KR c.P W) es ks→Pairs (SK c) en ks→(∀ e∈en,∃ k,Value.isStrOf k e.key=true∧e.hash=hashStr c.w k)→ER c.P W es en
 | [],_,_,h,p,_=>by obtain rfl:_=[]:=h;cases p;rfl
 |(x,_)::_,_,_,.mk a r,p,hk=>by
  cases p with
  | @cons e _ en _ k1 k2 k3=>
   obtain⟨k,q⟩:=hk e (.head _)
   have k1:Value.isStrOf (st x) e.key=true:=a.1▸k1
   exact .mk ((Value.isStrOf_shape k1).elim fun t ht=>.mk e t (Value.isStrOf_inj _ _ _ k1 q.1▸q.2) ht (k2▸a.2)) (yL r k3 fun e' m=>hk e' (.tail _ m))
theorem AF {ks:List (Str×Value)}{k:Str}{u:Value}(h:k ∉ ks.map (·.1)):ks.map (fun kv=>if kv.1=k then(kv.1,u)else kv)=ks:=by
 conv=>rhs;rw[← List.map_id ks]
 exact List.map_congr_left fun kv m=>if_neg fun e:kv.1=k=>h (e▸List.mem_map_of_mem m)
theorem nF {x:Nm}{v:V}{u:Value}(hv:VR c.P W v u):∀ {es:List (Nm×V)} {ks:List (Str×Value)},R2 (KR c.P W) es ks→(es.map (·.1)).Nodup→R2 (KR c.P W) (pt es x v) (PySem.stored ks (st x) u)
 | [],_,h,_=>by obtain rfl:_=[]:=h;exact .mk ⟨rfl,hv⟩ rfl
 |(y,d)::es,(k,z)::ks,.mk (h1:_∧_) r,nd=>by
  have nd:=List.nodup_cons.mp nd
  obtain⟨e,h1⟩:=h1
  have e:k=st y:=e
  subst e
  unfold pt
  dsimp only
  cases q:nb y x with
  |true=>
   obtain rfl:=iH q
   have m:st y ∉ ks.map (·.1):=by rw[KR.keys r];exact fun m=>nd.1 ((List.mem_map.mp m).elim fun y' w=>sW w.2▸w.1)
   have e1:PySem.stored ((st y,z)::ks) (st y) u=(st y,u)::ks:=by
    unfold PySem.stored
    rw[List.any_cons,decide_eq_true rfl,Bool.true_or,if_pos rfl,List.map_cons,if_pos rfl,AF m]
   rw[e1];exact .mk ⟨rfl,hv⟩ r
  |false=>
   have ne:¬ st y=st x:=fun e=>rL q (sW e)
   have e1:PySem.stored ((st y,z)::ks) (st x) u=(st y,z)::PySem.stored ks (st x) u:=by
    unfold PySem.stored
    rw[List.any_cons,decide_eq_false ne,Bool.false_or,List.map_cons,if_neg ne]
    cases ks.any fun kv=>decide (kv.1=st x)<;>rfl
   rw[e1];exact .mk ⟨rfl,h1⟩ (nF hv r nd.2)
theorem rO {es:List (Nm×V)}{ks:List (Str×Value)}(d:h.DictOf (SK c) a ks)(k:R2 (KR c.P W) es ks)(nd:(es.map (·.1)).Nodup):Got h a (OR c.P W (.ns es)):=match d with
 |⟨⟨_,_,_,_⟩,en,n,h1,⟨h2,h3,h4⟩,h5,h6,h7,_⟩=>by
  cases h2;cases h3;cases h4;cases h5
  exact .mk _ h1 ⟨nd,.mk en.toList n (yL k h7 fun e m=>h6 e (Array.mem_toList_iff.mp m))⟩
theorem vE:∀ {l:List Nm},l.Nodup→(l.map st).Nodup
 | [],_=>List.nodup_nil
 |_::_,h=>have h:=List.nodup_cons.mp h;List.nodup_cons.mpr ⟨fun m=>(List.mem_map.mp m).elim fun _ w=>h.1 (sW w.2▸w.1),vE h.2⟩
end
inductive LAt (P:Params) (W:Wd) (h:Heap) (cl:String) (xs:List V):Value→Prop
 |mk (a:Addr) (us:List Value) (n:Nat) (I:h.get? a=some ⟨.type cl,none,.seq us.toArray n,#[]⟩) (d:VRs P W xs us):LAt P W h cl xs (.ref a)
noncomputable def items (v:V)(hp:List O):Option (List V):=match v with
 |.dat (.lst ds)=>some (ds.map .dat)
 |.ref l=>hp[l]?.bind O.lstE
 |_=>none
noncomputable def iP (v:V)(hp:List O):Option (List V):=match v with
 |.dat (.tup ds)=>some (ds.map .dat)
 |.ref l=>hp[l]?.bind O.tupE
 |_=>none
section
variable {P:Params}{W:Wd}{hp:List O}{h:Heap}{u:Value}{xs:List V}{l:Nat}
theorem DRs.vrs {ds:List D}{us:List Value}(d:DRs P W.fz ds us):VRs P W (ds.map .dat) us:=R2.map (DRs.r2.mp d)
theorem DRe.er:∀ {es:List (Nm×D)} {en:List DictEntry},DRe P W.fz es en→ER P W (es.map fun p=>(p.1,.dat p.2)) en
 | [],_,h=>h
 |_::_,_,.mk a r=>.mk a (DRe.er r)
theorem Gq (R:Rel P W hp h)(hv:VR P W (.ref l) u)(e:hp[l]?.bind O.lstE=some xs):LAt P W h "list" xs u:=match R.lst (fP e)with
 |.mk us n g d=>(show u=.ref (W.ρ l)from hv.2) ▸ .mk _ us n g d
theorem Gr (R:Rel P W hp h)(hv:VR P W (.ref l) u)(e:hp[l]?.bind O.tupE=some xs):LAt P W h "tuple" xs u:=match R.tup (KX e)with
 |.mk us n g d=>(show u=.ref (W.ρ l)from hv.2) ▸ .mk _ us n g d
theorem eW {v:V}(R:Rel P W hp h)(hv:VR P W v u)(e:items v hp=some xs):LAt P W h "list" xs u:=by
 cases v with
 |dat d=>cases d with
  |lst ds=>exact match u,(hv:IsSeq W.fz "list" (DRs P W.fz ds) u)with|_,.mk a vs n f d=>Option.some.inj e ▸ .mk a vs n (R.fz _ _ f) d.vrs
  |_=>cases e
 |ref l=>exact Gq R hv e
 |_=>cases e
theorem hU {v:V}(R:Rel P W hp h)(hv:VR P W v u)(e:iP v hp=some xs):LAt P W h "tuple" xs u:=by
 cases v with
 |dat d=>cases d with
  |tup ds=>exact match u,(hv:IsSeq W.fz "tuple" (DRs P W.fz ds) u)with|_,.mk a vs n f d=>Option.some.inj e ▸ .mk a vs n (R.fz _ _ f) d.vrs
  |_=>cases e
 |ref l=>exact Gr R hv e
 |_=>cases e
end
noncomputable def wX {α:Type}:List α→Bool
 | []=>false
 |_::_=>true
theorem wY:typeLookup (.type "method") "__bool__" =pure none:=by rw[typeLookup_type,builtinLookup_eq_fast];kernel_rfl
theorem AG:typeLookup (.type "method") "__len__" =pure none:=by rw[typeLookup_type,builtinLookup_eq_fast];kernel_rfl
section
variable {c:Cx}{n:Nat}{A:Around}{W:Wd}{hp:List O}{s:Shared}
theorem i0 {i:Int}{t k:Nat}(z:At c n A W hp s):Post c c.VT W hp s (.dat (.int i)) hp (.int i t) {s with toks:=k}:=.tok z (.mk t)
theorem mC {x:Nm}{t k:Nat}(z:At c n A W hp s):Post c c.VT W hp s (.dat (.str x)) hp (.str (st x) t) {s with toks:=k}:=.tok z (.mk t)
theorem Kf {x:Str}{t k:Nat}(z:At c n A W hp s):Post c c.VT W hp s (.dat (.str x.cps.toList)) hp (.str x t) {s with toks:=k}:=bA x▸mC z
theorem Gs {xs:List V}{us:List Value}(d:VRs c.P W xs us):(!us.toArray.isEmpty)=wX xs:=by
 cases xs with
 |nil=>obtain rfl:us=[]:=d;rfl
 |cons=>cases us with
  |nil=>exact nomatch R2.len d
  |cons=>rfl
noncomputable def SI (v:V)(hp:List O):Option (Rs Bool fun k hp'=>BK c n hp truthy BJ v k hp'):=tk (items v hp) fun xs e=>some ⟨wX xs,hp,Nat.ble xs.length lim,fun g _ _ _ u z h=>match u,eW z.rel h e with
 |_,.mk a us k I d=>wpAny_truthy_list ⟨_,I,rfl,k,rfl⟩ (by rw[List.size_toArray,R2.len d];exact oP g) (.tok z (Gs d))⟩
noncomputable def Kg (c:Cx)(n:Nat)(hp:List O):(v:V)→Option (Rs Bool fun k hp'=>BK c n hp truthy BJ v k hp')
 |.dat .non=>some ⟨false,hp,true,fun _ _ _ _ u z h=>(show u=.none from h)▸wpAny_pure (.here z rfl)⟩
 |.dat (.boo b)=>some ⟨b,hp,true,fun _ _ _ _ u z h=>(show u=.bool b from h)▸wpAny_pure (.here z rfl)⟩
 |.dat (.int i)=>some ⟨!rB i 0,hp,true,fun _ _ _ _ _ z (.mk _)=>PySem.P.truthy_int (.here z (congrArg (!·) (eQ i 0)))⟩
 |.dat (.str x)=>some ⟨wX x,hp,Nat.ble x.length lim,fun g _ _ _ _ z (.mk _)=>PySem.P.truthy_str (Int.not_le.mpr (oP g)) (.tok z (by cases x <;>rfl))⟩
 |.mth f l=>some ⟨true,hp,true,fun _ _ _ _ _ z (.mk a _ f)=>by
   have hT:_:=z.rel.fz _ _ f
   unfold truthy
   exact wpAny_bind (wpAny_callSpecial?_none (name:=Str.ofString "__bool__") (T:="method") ⟨_,hT,rfl⟩ wY (wpAny_bind (wpAny_specialOf (name:=Str.ofString "__len__") (T:="method") ⟨_,hT,rfl⟩ AG (wpAny_pure (.here z rfl)))))⟩
 |v=>SI v hp
end
end
section
theorem nG (x:Nm):(st x).length=x.length:=rfl
theorem rP (x y:Nm):st x++st y=st (x++y):=congrArg Str.mk (List.append_toArray x y)
noncomputable def nH:Int→Nat→Option Nat
 |.ofNat m,n=>match Nat.blt m n with
  |true=>some m
  |false=>none
 |.negSucc m,n=>match Nat.ble (m+1) n with
  |true=>some (n - (m+1))
  |false=>none
noncomputable def rE {α:Type}(xs:List α)(k:Int):Option α:=(nH k xs.length).bind fun j=>xs[j]?
theorem pR {k:Int}{n j:Nat}(e:nH k n=some j):seqIndex? k n=some j∧((0≤k∧k.toNat=j)∨(k<0∧ -(n:Int)≤k∧(k+n).toNat=j))∧j<n:=by
 unfold seqIndex?
 cases k with
 |ofNat m=>
  have e:(match Nat.blt m n with|true=>some m|false=>none)=some j:=e
  cases h:Nat.blt m n with
  |false=>rw[h]at e;cases e
  |true=>
   rw[h]at e
   obtain rfl:=Option.some.inj e
   have h:m<n:=Nat.le_of_ble_eq_true h
   have p:¬ Int.ofNat m<0:=Int.not_lt.mpr (Int.natCast_nonneg m)
   exact⟨by rw[if_neg p];exact if_pos (Bool.and_eq_true_iff.mpr ⟨decide_eq_true (Int.natCast_nonneg m),decide_eq_true (Int.ofNat_lt.mpr h)⟩),.inl ⟨Int.natCast_nonneg m,rfl⟩,h⟩
 |negSucc m=>
  have e:(match Nat.ble (m+1) n with|true=>some (n - (m+1))|false=>none)=some j:=e
  cases h:Nat.ble (m+1) n with
  |false=>rw[h]at e;cases e
  |true=>
   rw[h]at e
   obtain rfl:=Option.some.inj e
   have h:=Nat.le_of_ble_eq_true h
   have p:Int.negSucc m+(n:Int)=((n - (m+1):Nat):Int):=by rw[Int.negSucc_eq];omega
   have lt:n - (m+1)<n:=Nat.sub_lt (Nat.lt_of_lt_of_le (Nat.succ_pos m) h) (Nat.succ_pos m)
   exact⟨by rw[if_pos (Int.negSucc_lt_zero m),p];exact if_pos (Bool.and_eq_true_iff.mpr ⟨decide_eq_true (Int.natCast_nonneg _),decide_eq_true (Int.ofNat_lt.mpr lt)⟩),.inr ⟨Int.negSucc_lt_zero m,by rw[Int.negSucc_eq];omega,congrArg Int.toNat p⟩,lt⟩
set_option genCtorIdx true in
inductive Op where|add|sub|mod|fdiv
noncomputable def iQ:Op→Operator
 |.add=>.Add|.sub=>.Sub|.mod=>.Mod|.fdiv=>.FloorDiv
section
variable {c:Cx}{n:Nat}{A:Around}{W:Wd}{hp:List O}{s:Shared}{α β:Type}
theorem pT {xs:List V}{us:List Value}{t:Nat}(z:At c n A W hp s)(d:VRs c.P W xs us):Post c c.VT W hp s (.ref hp.length) (hp++[.lst xs]) (.ref s.heap.objs.size) {s with heap:=s.heap.push {cls:=.type "list",data:=.seq us.toArray},toks:=t}:=
 have y:=z.rel.alloc (o:=.lst xs) (.mk us 0 (VRs.mono (Wd.le_push W _) d))
 .mk _ y.1 (.of y.2) ⟨z.rel.len▸Nat.lt_succ_self _,congrArg Value.ref (z.rel.push_at _).symm⟩
theorem i8 {l:Nat}{xs ys:List V}{us vs:List Value}{k t:Nat}{f:Array Value→Array Value}{RR:RT β α}{b:β}{r:α}(z:At c n A W hp s)(lv:Lv hp l (.lst xs))(g:s.heap.get? (W.ρ l)=some ⟨.type "list",none,.seq us.toArray k,#[]⟩)
  (d:VRs c.P W ys vs)(hf:f us.toArray=vs.toArray)(x:RR W b r):Post c RR W hp s b (hp.set l (.lst ys)) r {s with heap:=s.heap.update (W.ρ l) (Obj.mapSeq f),toks:=t}:=
 have y:=z.rel.update (l:=l) (o':=.lst ys) (f:=Obj.mapSeq f) lv g (by simp only[Obj.mapSeq,hf];exact .mk vs _ d)
 .mk W y.1 (.of y.2) x
noncomputable def SJ (c:Cx)(n:Nat)(hp:List O)(x y:Int):(op:Op)→Rs V fun v hp'=>bZ c n hp (binaryOp (iQ op)) c.VT (.dat (.int x)) (.dat (.int y)) v hp'
 |.add=>⟨.dat (.int (x+y)),hp,true,fun _ _ _ _ _ _ z (.mk _) (.mk _)=>PySem.P.add_int (i0 z)⟩
 |.sub=>⟨.dat (.int (x-y)),hp,true,fun _ _ _ _ _ _ z (.mk _) (.mk _)=>PySem.P.sub_int (i0 z)⟩
 |.mod=>⟨.dat (.int (Int.fmod x y)),hp,!rB y 0,fun g _ _ _ _ _ z (.mk _) (.mk _)=>mod_int (bne_iff_ne.mp ((congrArg (!·) (eQ y 0)).trans g)) (i0 z)⟩
 |.fdiv=>⟨.dat (.int (Int.fdiv x y)),hp,!rB y 0&& !Builtin.divisionGoesByPylong x y,fun g _ _ _ _ _ z (.mk _) (.mk _)=>have g:=Bool.and_eq_true_iff.mp g;floordiv_int (bne_iff_ne.mp ((congrArg (!·) (eQ y 0)).trans g.1)) (i0 z) (.inl ((Bool.not_eq_true' _).mp g.2))⟩
noncomputable def SM (c:Cx)(n:Nat)(hp:List O)(a b:V):(op:Op)→Option (Rs V fun v hp'=>bZ c n hp (binaryOp (iQ op)) c.VT a b v hp')
 |.add=>tk (items a hp) fun xs e=>tk (items b hp) fun ys e'=>some ⟨.ref hp.length,hp++[.lst (xs++ys)],Nat.ble (xs.length+ys.length) lim,fun g _ _ _ u u' z h h'=>match u,u',eW z.rel h e,eW z.rel h' e' with
  |_,_,.mk a us k I d,.mk a' us' k' I' d'=>PySem.P.add_list I I' (by rw[List.append_toArray];exact pT z (R2.app d d')) (by rw[List.size_toArray,List.size_toArray,R2.len d,R2.len d'];exact d9 g)⟩
 |_=>none
noncomputable def SN (c:Cx)(n:Nat)(hp:List O)(op:Op):(a b:V)→Option (Rs V fun v hp'=>bZ c n hp (binaryOp (iQ op)) c.VT a b v hp')
 |.dat (.int x),.dat (.int y)=>some (SJ c n hp x y op)
 |.dat (.str x),.dat (.str y)=>match op with
  |.add=>some ⟨.dat (.str (x++y)),hp,Nat.ble (x.length+y.length) lim,fun g _ _ _ _ _ z (.mk _) (.mk _)=>SB.add (fun t' k=>rP x y▸mC z) (d9 g)⟩
  |_=>none
 |a,b=>SM c n hp a b op
theorem wZ {l b:Addr}{us vs:Array Value}{k m:Nat}{Q:Value→Shared→Prop}(hl:IsL s.heap l us k)(hb:IsL s.heap b vs m)(hz:us.size+vs.size≤sizeLine)
  (h:Q (.ref l) {s with heap:=s.heap.update l (Obj.mapSeq (· ++vs))}):c.wp A (inplaceOp .Add (.ref l) (.ref b)) Q s:=by
 have tl:s.TypeIs (.ref l) "list" :=⟨_,hl,rfl⟩
 have tb:s.TypeIs (.ref b) "list" :=⟨_,hb,rfl⟩
 have seq:isSeqSlot (some (.builtin "list.__iadd__"))=true:=by decide+kernel
 have fi:fillsInplaceSlot (.type "list") "add" (Operator.Add==.Add)=pure false:=by
  unfold fillsInplaceSlot
  show(typeLookup (.type "list") (dunderI "add") >>= fun fi=>pure (fi.isSome&& !isSeqSlot fi))=pure false
  rw[F.slot_list_iadd.lookup,pure_bind,seq];rfl
 unfold inplaceOp
 refine wpAny_holding (wpAny_bind (wpAny_typeOf tl (wpAny_bind (wpAny_of_eq fi ?_))))
 show wpAny _ A (if false=true then _ else _) Q no s
 rw[if_neg Bool.false_ne_true]
 refine wpAny_bind (wpAny_binaryOp1_none (nm:="add") tl tb noFill_list_add ?_)
 refine wpAny_bind (wpAny_of_eq (PySem.seqSlot_of F.slot_list_iadd.lookup seq) (wpAny_bind (wpAny_rule ?_)))
 exact call_meets F.slot_list_iadd tl F.entry_list_iadd (F.args_list_iadd_2 _ _) (AutoSeq1.list___iadd___list_list_0 l us k b vs m (fun q=>Nat.not_lt.mpr hz (of_decide_eq_true (Bool.and_eq_true_iff.mp q).2)) (Nat.le_trans (Nat.le_add_right _ _) hz) (Nat.le_succ_of_le hz)) ⟨hl,hb,h⟩
noncomputable def Kh (c:Cx)(n:Nat)(hp:List O):(op:Op)→(a b:V)→Option (Rs V fun v hp'=>bZ c n hp (inplaceOp (iQ op)) c.VT a b v hp')
 |.add,.dat (.int x),.dat (.int y)=>some ⟨.dat (.int (x+y)),hp,true,fun _ _ _ _ _ _ z (.mk _) (.mk _)=>PySem.P.iadd_int (i0 z)⟩
 |.sub,.dat (.int x),.dat (.int y)=>some ⟨.dat (.int (x-y)),hp,true,fun _ _ _ _ _ _ z (.mk _) (.mk _)=>PySem.P.isub_int (i0 z)⟩
 |.add,.dat (.str x),.dat (.str y)=>some ⟨.dat (.str (x++y)),hp,Nat.ble (x.length+y.length) lim,fun g _ _ _ _ _ z (.mk _) (.mk _)=>SB.iadd (fun t' k=>rP x y▸mC z) (d9 g)⟩
 |.add,.ref l,b=>tk (hp[l]?.bind O.lstE) fun xs e=>tk (items b hp) fun ys e'=>some ⟨.ref l,hp.set l (.lst (xs++ys)),Nat.ble (xs.length+ys.length) lim,fun g _ W _ u u' z h h'=>match u',z.rel.lst (fP e),eW z.rel h' e' with
  |_,.mk us k I d,.mk a' us' k' I' d'=>by
   rw[show u=.ref (W.ρ l)from h.2]
   exact wZ I I' (by rw[List.size_toArray,List.size_toArray,R2.len d,R2.len d'];exact d9 g) (i8 (t:=_) z (fP e) I (R2.app d d') (List.append_toArray us us').symm.symm ⟨h.1,rfl⟩)⟩
 |_,_,_=>none
noncomputable def w0 (c:Cx)(n:Nat)(hp:List O)(x:Nm)(k:Int)(a:Nat)(e:rE x k=some a):Rs V fun v hp'=>bZ c n hp getItem c.VT (.dat (.str x)) (.dat (.int k)) v hp':=
 ⟨.dat (.str [a]),hp,gH k,fun g _ _ _ _ _ z (.mk _) (.mk _)=>(bS e).elim fun j q=>have l:=pQ g
  PySem.P.getItem_str (c:=a) (Bool.or_eq_false_iff.mpr ⟨decide_eq_false (Int.not_lt.mpr l.1),decide_eq_false (Int.not_le.mpr l.2)⟩) (by rw[nG,(pR q.1).1,Option.bind_some];exact(List.getElem?_toArray ..).trans q.2) (mC (x:=[a]) z)⟩
noncomputable def w5 (c:Cx)(n:Nat)(hp:List O)(o:V)(k:Int):Option (Rs V fun v hp'=>bZ c n hp getItem c.VT o (.dat (.int k)) v hp'):=
 GP (items o hp) (fun xs e=>tk (rE xs k) fun x e2=>some ⟨x,hp,gH k,fun g _ _ _ u _ z h (.mk _)=>match u,eW z.rel h e with
   |_,.mk a us m I d=>(bS e2).elim fun j q=>(R2.at d q.2).elim fun y r=>by
    have l:=pQ g
    have i:=pR q.1
    have r1:us.toArray[j]? =some y:=(List.getElem?_toArray ..).trans r.1
    rcases i.2.1 with⟨i1,i2⟩|⟨i1,i2,i3⟩
    ·exact wpAny_getItem_list ⟨_,I,rfl,m,rfl⟩ i1 l.2 (i2.symm▸r1) (.here z r.2)
    ·have sz:us.toArray.size=xs.length:=List.size_toArray.trans (R2.len d)
     exact wpAny_getItem_list_neg ⟨_,I,rfl,m,rfl⟩ i1 (sz.symm▸i2) l.1 (by rw[sz,i3];exact r1) (.here z r.2)⟩)
  fun _=>tk (iP o hp) fun xs e=>tk (rE xs k) fun x e2=>some ⟨x,hp,gH k,fun g _ _ _ u _ z h (.mk _)=>match u,hU z.rel h e with
   |_,.mk a us m I d=>(bS e2).elim fun j q=>(R2.at d q.2).elim fun y r=>have l:=pQ g
    PySem.P.getItem_tuple I l.1 l.2 (by rw[List.size_toArray,R2.len d];exact(pR q.1).1) ((List.getElem?_toArray ..).trans r.1) (.here z r.2)⟩
theorem vF {en:List DictEntry}{k:Nat}{es:List (Nm×V)}{x:Nm}{v:V}{a:Addr}{t:Tok}(z:At c n A W hp s)(E:ER c.P W es en)(g:s.heap.get? a=some ⟨.type "dict",none,.dict en.toArray k,#[]⟩)(e:lk es x=some v):c.wp A (getItem (.ref a) (.str (st x) t)) (Post c c.VT W hp s v hp) s:=
 (E.find e).elim fun u r=>wpAny_getItem_of (knd:=SK c) (beq_self_eq_true _:Value.isStrOf (st x) (.str (st x) t)=true) (Ke E g) (Gp r.1) (.tok z r.2)
theorem BS {x:Nm}{d:D}:∀ {es:List (Nm×D)},lk es x=some d→lk (es.map fun p=>(p.1,V.dat p.2)) x=some (.dat d)
 |p::r,e=>by
  unfold lk at e ⊢
  show(match nb p.1 x with|true=>_|false=>_)=_
  cases q:nb p.1 x with
  |true=>rw[q]at e;exact congrArg (fun d=>some (V.dat d)) (Option.some.inj e)
  |false=>rw[q]at e;exact BS e
noncomputable def OS (c:Cx)(n:Nat)(hp:List O):(o i:V)→Option (Rs V fun v hp'=>bZ c n hp getItem c.VT o i v hp')
 |.dat (.str x),.dat (.int k)=>tk (rE x k) fun a e=>some (w0 c n hp x k a e)
 |.dat (.dct es),.dat (.str x)=>tk (lk es x) fun d e=>some ⟨.dat d,hp,true,fun _ _ _ _ _ _ z (.mk _ _ _ f q) (.mk _)=>vF z (DRe.er q) (z.rel.fz _ _ f) (BS e)⟩
 |.ref l,.dat (.str x)=>tk (hp[l]?.bind O.nsE) fun es e=>tk (lk es x) fun v e2=>some ⟨v,hp,true,fun _ _ W _ u _ z h (.mk _)=>match z.rel.ns (pL e)with
  |.mk en k g E _=>(show u=.ref (W.ρ l)from h.2)▸vF z E g e2⟩
 |o,.dat (.int k)=>w5 c n hp o k
 |_,_=>none
theorem BU {l:Addr}{us:Array Value}{m:Nat}{k:Int}{j:Nat}{t:Tok}{v:Value}{Q:Unit→Shared→Prop}(hl:IsL s.heap l us m)(hj:nH k us.size=some j)(g:gH k=true)
  (h:Q () {s with heap:=s.heap.update l (Obj.mapSeq (·.setIfInBounds j v))}):c.wp A (setItem (.ref l) (.int k t) v) Q s:=by
 have i:=pR hj
 have at_:us[j]? =some us[j]:=Array.getElem?_eq_getElem i.2.2
 have ty:s.TypeIs (.ref l) "list" :=⟨_,hl,rfl⟩
 unfold setItem
 refine wpAny_holding (wpAny_bind (wpAny_sequenceKey ty (by decide) ?_))
 refine wpAny_bind (wpAny_callSpecial?_slot (name:=Str.ofString "__setitem__") ty slot_list_setitem (wpAny_call_entry slot_list_setitem ty entry_list_setitem ?_ (args_list_setitem _ _ _)))
 show wpAny _ _ (Builtin.List.listSubscript? (.int k t) >>= _) _ _ s
 refine wpAny_bind (wpAny_listSubscript_int (Bool.and_eq_true_iff.mpr ⟨decide_eq_true (pQ g).1,decide_eq_true (pQ g).2⟩) ?_)
 have iJ:wpAny c.M A.in1 (setSeqItemAt l j v >>= fun _=>ret .none) (fun iJ s'=>∃ r,iJ=.done (.ret r)∧wpAny c.M A (pure ():Sem Unit) Q no s') no s:=
  wpAny_bind (wpAny_setSeqItemAt hl rfl (wpAny_pure ⟨.none,rfl,wpAny_pure h⟩))
 cases k with
 |ofNat m=>
  obtain rfl:m=j:=i.2.1.elim (fun q=>q.2) fun q=>absurd q.1 (Int.not_lt.mpr (Int.natCast_nonneg m))
  show wpAny _ _ ((seqItemAt l m >>= fun r=>pure (r.map (m,·))) >>= _) _ _ s
  refine wpAny_bind (wpAny_bind (wpAny_seqItemAt hl rfl (wpAny_pure ?_)))
  rw[at_]
  exact iJ
 |negSucc m=>
  show wpAny _ _ ((Builtin.List.listItems (.ref l) >>= fun xs=>pure ((seqIndex? (Int.negSucc m) xs.size).bind fun i=>xs[i]?.map (i,·))) >>= _) _ _ s
  refine wpAny_bind (wpAny_bind ?_)
  show wpAny _ _ (seqItems? (.ref l) >>= _) _ _ s
  refine wpAny_bind (wpAny_seqItems hl rfl (wpAny_pure (wpAny_pure ?_)))
  rw[i.1,Option.bind_some,at_]
  exact iJ
noncomputable def Ki (c:Cx)(n:Nat)(hp:List O):(o i x:V)→Option (Rs Unit fun _ hp'=>∀ A W s u v w,At c n A W hp s→VR c.P W o u→VR c.P W i v→VR c.P W x w→c.wp A (setItem u v w) (Post c u8 W hp s () hp') s)
 |.ref l,.dat (.int k),x=>tk (hp[l]?.bind O.lstE) fun xs e=>tk (nH k xs.length) fun j e2=>some ⟨(),hp.set l (.lst (xs.set j x)),gH k,fun g _ W _ u _ _ z h (.mk _) hx=>match z.rel.lst (fP e)with
  |.mk us m I d=>by
   rw[show u=.ref (W.ρ l)from h.2]
   exact BU I (by rw[List.size_toArray,R2.len d];exact e2) g (i8 (t:=_) z (fP e) I (R2.set d hx) (by rw[List.setIfInBounds_toArray]) trivial)⟩
 |.ref l,.dat (.str y),x=>tk (hp[l]?.bind O.nsE) fun es e=>some ⟨(),hp.set l (.ns (pt es y x)),Nat.ble es.length lim,fun g _ W s u _ _ z h (.mk t) hx=>match z.rel.ns (pL e)with
  |.mk en k gd E nd=>(ER.rows E).elim fun ks r=>by
   rw[show u=.ref (W.ρ l)from h.2]
   refine wpAny_setItem_pairs (knd:=SK c) (beq_self_eq_true _:Value.isStrOf (st y) (.str (st y) t)=true) ⟨_,_,k,gd,⟨rfl,rfl,rfl⟩,rfl,E.keysOf,r.2,by rw[KR.keys r.1];exact vE nd⟩ (fun h' d' sb=>?_) (by rw[R2.len r.1];exact d9 g)
   have q:=z.rel.change (o':=.ns (pt es y x)) (pL e) (fun b ne=>sb.2 b ne) (rO d' (nF hx r.1 nd) (l9 y x nd))
   exact .mk W q.1 (.of q.2) trivial⟩
 |_,_,_=>none
end
end
section
open PySem.Builtin.Str PySem.StrLaws
noncomputable def dL (y z:List Nat):Nat→List Nat→List Nat
 |_,[]=>[]
 |0,c::r=>if y.isPrefixOf (c::r)then z++dL y z (y.length-1) r else c::dL y z 0 r
 |k+1,_::r=>dL y z k r
theorem yM (y z:List Nat)(k:Nat):dL y z k []=[]:=by cases k <;>rfl
theorem vG (y z:List Nat):∀ (k:Nat) (l:List Nat),dL y z k l=dL y z 0 (l.drop k)
 |0,l=>rfl
 |k+1,[]=>by simp[yM]
 |k+1,_::r=>by rw[dL,vG y z k r];rfl
theorem pU (y z:List Nat):∀ (n:Nat) (l:List Nat),(∀ k,k<n→y.isPrefixOf (l.drop k)=false)→dL y z 0 l=l.take n++dL y z 0 (l.drop n)
 |0,l,_=>by simp
 |n+1,[],_=>by simp[dL]
 |n+1,c::r,h=>by
  have h0:=h 0 (by omega)
  rw[dL,if_neg (by rw[List.drop_zero]at h0;rw[h0];simp),pU y z n r fun k hk=>h (k+1) (by omega)]
  simp
theorem yN {y z l:List Nat}(hy:y≠[])(h:y.isPrefixOf l=true):dL y z 0 l=z++dL y z 0 (l.drop y.length):=by
 cases l with
 |nil=>cases y with
  |nil=>exact absurd rfl hy
  |cons _ _=>simp at h
 |cons c r=>
  rw[dL,if_pos h,vG]
  cases y with
  |nil=>exact absurd rfl hy
  |cons a y=>simp
theorem yO (y l:List Nat):y.isPrefixOf l=(l.take y.length==y):=by
 rw[Bool.eq_iff_iff,List.isPrefixOf_iff_prefix,beq_iff_eq,List.prefix_iff_eq_take]
 exact⟨fun h=>h.symm,fun h=>h.symm⟩
theorem tC {y:List Nat}(h:y≠[]):0<y.length:=by cases y <;>simp_all
theorem jJ (x:List Nat):(st x).length=x.length:=by simp[st,Str.length]
theorem iI (x:List Nat):(st x).cps.toList=x:=by simp[st]
theorem w7 {x y:List Nat}{i:Nat}(hy:y≠[]):PySem.StrLaws.At (st x) (st y) (st x).length i↔y.isPrefixOf (x.drop i)=true:=by
 unfold PySem.StrLaws.At
 rw[subAt_eq,jJ,jJ,iI,iI,yO]
 refine⟨fun h=>h.2,fun h=>⟨?_,h⟩⟩
 have h:=beq_iff_eq.mp h
 have hl:=congrArg List.length h
 rw[List.length_take,List.length_drop]at hl
 have:0<y.length:=tC hy
 omega
theorem rQ (z p q:Str)(r:List Str):(Str.join z (p::q::r)).cps.toList=p.cps.toList++z.cps.toList++(Str.join z (q::r)).cps.toList:=by
 show(p++z++Str.join z (q::r)).cps.toList=_
 simp[Str.cps_append]
theorem rR (x y z:List Nat)(hy:y≠[]):∀ (cuts:List Nat) (a f:Nat),ChainG (st x) (st y) (st x).length a cuts f→(∀ k,f≤k→¬ PySem.StrLaws.At (st x) (st y) (st x).length k)→
  (Str.join (st z) (partsFrom (st x) (st y).length a cuts)).cps.toList=dL y z 0 (x.drop a)
 | [],a,f,h,hn=>by
  have h:f=a:=h
  subst h
  show(strSub (st x) f (st x).length).cps.toList=_
  rw[strSub_toList,iI,jJ,List.take_of_length_le (by simp)]
  rw[pU y z (x.drop f).length (x.drop f) fun k _=>?_]
  ·rw[List.drop_of_length_le (Nat.le_refl _),yM,List.take_of_length_le (Nat.le_refl _),List.append_nil]
  ·have:=hn (f+k) (by omega)
   rw[w7 hy,← List.drop_drop]at this
   exact Bool.eq_false_iff.mpr this
 |c::r,a,f,h,hn=>by
  obtain⟨h1,h2,h3,h4⟩:=h
  have ih:=rR x y z hy r (c+(st y).length) f h4 hn
  obtain⟨p,q,e⟩:=partsFrom_ne (st x) (st y).length (c+(st y).length) r
  show(Str.join (st z) (strSub (st x) a c::partsFrom (st x) (st y).length (c+(st y).length) r)).cps.toList=_
  rw[e]at ih ⊢
  rw[rQ,ih,strSub_toList,iI,iI]
  rw[pU y z (c-a) (x.drop a) fun k hk=>?_]
  ·rw[List.drop_drop,show a+(c-a)=c by omega,yN hy ((w7 hy).mp h2),List.drop_drop,jJ]
   simp
  ·have:=h3 (a+k) (by omega) (by omega)
   rw[w7 hy,← List.drop_drop]at this
   exact Bool.eq_false_iff.mpr this
theorem w8 (x y z:List Nat)(hy:y≠[]):(Txt.replace (st x) (st y) (st z)).cps.toList=dL y z 0 x:=by
 obtain⟨f,h1,h2⟩:=occ_tight (st x) (st y) (by rw[jJ];exact tC hy)
 have key:=rR x y z hy _ 0 f h1 h2
 unfold Txt.replace
 split
 ·rename_i hc
  have:((st y).length==0)=false:=by rw[jJ];simp[hy]
  rw[this]at hc
  simp only[Bool.false_and,Bool.or_false]at hc
  have hc:=List.isEmpty_iff.mp hc
  rw[hc]at key
  rw[List.drop_zero]at key
  rw[← key]
  show(st x).cps.toList=(strSub (st x) 0 (st x).length).cps.toList
  rw[strSub_toList,iI,jJ];simp
 ·rw[glued_eq_join,partsBetween_eq,key];simp
theorem hF {y z:List Nat}(hy:y≠[])(h:z.length≤y.length):∀ (n:Nat) (l:List Nat),l.length≤n→(dL y z 0 l).length≤l.length
 |0,l,hn=>by have:l=[]:=List.length_eq_zero_iff.mp (by omega);subst this;simp[dL]
 |n+1,[],_=>by simp[dL]
 |n+1,c::r,hn=>by
  have hl:0<y.length:=tC hy
  cases e:y.isPrefixOf (c::r)with
  |true=>
   rw[yN hy e]
   have he:(List.take y.length (c::r)).length=y.length:=by
    rw[yO]at e
    rw[beq_iff_eq.mp e]
   rw[List.length_take]at he
   have:=hF hy h n ((c::r).drop y.length) (by rw[List.length_drop];simp only[List.length_cons]at *;omega)
   rw[List.length_append]
   rw[List.length_drop]at this
   simp only[List.length_cons]at *
   omega
  |false=>
   rw[dL,if_neg (by rw[e];simp)]
   have:=hF hy h n r (by simp only[List.length_cons]at hn;omega)
   simp only[List.length_cons]
   omega
theorem rS:∀ (ss:List (List Nat)),(Str.join (st []) (ss.map st)).cps.toList=ss.flatten
 | []=>rfl
 | [x]=>by show(st x).cps.toList=_;simp[st]
 |x::y::r=>by
  have ih:=rS (y::r)
  rw[List.map_cons,List.map_cons,rQ]
  rw[List.map_cons]at ih
  rw[ih,iI,iI]
  simp
theorem BV (ss:List (List Nat)):(Txt.join (st []) (ss.map st)).cps.toList=ss.flatten:=by
 unfold Txt.join
 rw[glued_eq_join,rS]
theorem AH (ss:List (List Nat))(h:ss.flatten.length≤1048576):JoinOk (st []) (ss.map st)=true:=by
 have key:∀ (ss:List (List Nat)) (k:Nat),(ss.map st).foldl (fun a p=>a+p.length+(st []).length) k=k+ss.flatten.length:=by
  intro ss
  induction ss with
  |nil=>intro k;simp
  |cons x r ih=>
   intro k
   rw[List.map_cons,List.foldl_cons,ih,jJ,jJ]
   simp;omega
 unfold JoinOk
 rw[List.foldl_toArray]
 have e:(ss.map st).foldl (· +·.length+(st []).length) 0=ss.flatten.length:=by
  have:=key ss 0
  simpa using this
 unfold tooLong
 rw[e]
 have:sizeLine=16777216:=by decide
 simp only[this,Bool.not_eq_true',decide_eq_false_iff_not]
 omega
end
section
open PySem.Builtin.Str (strSliceIndices occurrences lastOccurrence)
inductive Keep (M:Model) (h:Heap) (f:Value):Prop
 |mk (k:Keeper) (o:k=Keeper.frame∨k=Keeper.machine∨k=Keeper.boundFrame) (l:Looks M h (keeperOf f) k)
theorem Keep.of {M:Model}{h:Heap}{f:Value}:(∃ k,(k=Keeper.frame∨k=Keeper.machine∨k=Keeper.boundFrame)∧Looks M h (keeperOf f) k)→Keep M h f
 |⟨k,o,l⟩=>.mk k o l
theorem Keep.blt {M:Model}{h:Heap}(i:String):Keep M h (.builtin i):=.mk .machine (.inr (.inl rfl)) .now
theorem Keep.typ {M:Model}{h:Heap}(i:String):Keep M h (.type i):=.mk .machine (.inr (.inl rfl)) .now
theorem yP {K:Frag}{a:Nat}(h:fnIn K a=true):keepIn K (.ref a)=true:=by
 unfold fnIn at h
 unfold keepIn
 split at h
 ·rename_i e;dsimp only;rw[e]
 ·cases h
noncomputable def yQ:Nm:=VI
theorem Gu:st yQ=("__init__" :Str):=by decide+kernel
noncomputable def GV (c:Cx)(n:Nat)(hp:List O)(f:V)(args:List V)(v:V)(hp':List O):Prop:=
 ∀ A W s fv vals,At c n A W hp s→VR c.P W f fv→VRs c.P W args vals→Keep c.M s.heap fv∧c.wp A (call fv vals) (Post c c.VT W hp s v hp') s
section
variable {c:Cx}{n:Nat}{A:Around}{W:Wd}{hp hp':List O}{s:Shared}{v:V}{args:List V}
theorem oR {f:Value}{vals:List Value}(h:codeAny c.M A (.call f ⟨vals,[]⟩) (fun r s'=>RetOk (Post c c.VT W hp s v hp') s' r) s):c.wp A (call f vals) (Post c c.VT W hp s v hp') s:=
 wpAny_call (codeAny_mono h fun _ _ q=>match q with|.mk _ p=>p)
theorem OT {a:Nat}(h:CallOk c n a args hp v hp'):GV c n hp (.top a) args v hp':=fun A W s fv vals z hf hv=>(show fv=.ref a from hf) ▸ ⟨.of (keeps_K (yP h.fn) _ z.In),oR (h.run A W s vals z hv)⟩
theorem Kj {f l:Nat}(h:CallOk c n f (.ref l::args) hp v hp'):GV c n hp (.mth f l) args v hp':=fun A W s _ vals z (.mk _ lt hz) hv=>
 ⟨.of (keeps_M h.fn _ ⟨z.rel.fz _ _ hz,z.In⟩),oR (method_call (z.rel.fz _ _ hz) (h.run A W s _ z (.mk ⟨lt,rfl⟩ hv)))⟩
theorem Kk {a i:Nat}{cl:Cl}(hc:yF c.G.cls a=some cl)(hi:lk cl.meths yQ=some i)(h:CallOk c n i (.ref (hp.length+1)::args) (hp++[.ns [],.ins a hp.length]) (.dat .non) hp'):GV c (n+1) hp (.top a) args (.ref (hp.length+1)) hp':=fun A W s fv vals z hf hv=>by
 rw[show fv=.ref a from hf]
 have C:=Jh hc
 have KI:=z.In
 have m:=C.meths yQ i hi
 have mf:=m.find
 rw[Gu]at mf
 refine⟨.of (keeps_K C.keep _ KI),oR ?_⟩
 obtain⟨hh,g,d,t,os⟩:=s
 refine make_core (makes_of KI C.makes) (looks_findIn KI mf) (fun self=>bind_fn KI self m.type) (.inl rfl) ?_
 have x:=z.rel.alloc (o:=.ns []) (ob:=emptyDict) ⟨List.nodup_nil,.mk [] 0 rfl⟩
 have lt:hp.length < (W.push hh.objs.size).n:=z.rel.len▸Nat.lt_succ_self _
 have y:=x.1.alloc (o:=.ins a hp.length) (ob:=instObj a hh.objs.size) (by
  have e:((W.push hh.objs.size).push (hh.push emptyDict).objs.size).ρ hp.length=hh.objs.size:=((Wd.le_push _ _).ρ _ lt).trans (z.rel.push_at _)
  exact Eq.mp (congrArg (fun q=>OIns ((W.push hh.objs.size).push (hh.push emptyDict).objs.size) a hp.length ⟨.ref a,some q,.plain,#[]⟩) e) (.mk (Nat.lt_succ_of_lt lt)))
 rw[List.append_assoc]at y
 rw[Heap.size_push]at y
 have E:=x.2.trans y.2
 have at_:((W.push hh.objs.size).push (hh.objs.size+1)).ρ (hp.length+1)=hh.objs.size+1:=if_pos (congrArg (· +1) z.rel.len.symm)
 have lt2:hp.length+1 < ((W.push hh.objs.size).push (hh.objs.size+1)).n:=Nat.succ_lt_succ lt
 have hw:Code.weight (.builtin "type.__call__" ⟨.ref a::vals,[]⟩)=1:=by kernel_rfl
 have hu:Code.cUnits (.builtin "type.__call__" ⟨.ref a::vals,[]⟩)=1:=by kernel_rfl
 have z':At c n (A.under (.builtin "type.__call__" ⟨.ref a::vals,[]⟩)) _ (hp++[.ns [],.ins a hp.length]) ⟨(hh.push emptyDict).push (instObj a hh.objs.size),g,d,t,os⟩:=
  ⟨z.room.under (hw▸by decide) (hu▸by decide),y.1,fun b o e=>E.le.fz b o (z.kin b o e),z.tk⟩
 refine codeAny_mono (h.run _ _ _ (.ref (hh.objs.size+1)::vals) z' (.mk ⟨lt2,congrArg Value.ref at_.symm⟩ (VRs.mono E.le hv))) fun r s' q=>?_
 match q with
 |.mk u (.mk W' R' L x')=>
  obtain rfl:u=.none:=x'
  exact⟨rfl,.mk _ (.mk W' R' ⟨E.trans L.e,L.g,L.o⟩ ⟨Nat.lt_of_lt_of_le lt2 L.le.n,congrArg Value.ref (((L.le.ρ _ lt2).trans at_).symm)⟩)⟩
noncomputable def V.intE:V→Option Int
 |.dat (.int i)=>some i
 |_=>none
noncomputable def V.strE:V→Option Nm
 |.dat (.str x)=>some x
 |_=>none
theorem hG {P:Params}{v:V}{i:Int}{u:Value}(e:v.intE=some i)(h:VR P W v u):∃ t,u=.int i t:=by
 cases v with
 |dat d=>cases d with
  |int j=>exact match u,(h:IsI j u)with|_,.mk t=>⟨t,Option.some.inj e▸rfl⟩
  |_=>cases e
 |_=>cases e
theorem k6 {P:Params}{v:V}{x:Nm}{u:Value}(e:v.strE=some x)(h:VR P W v u):∃ t,u=.str (st x) t:=by
 cases v with
 |dat d=>cases d with
  |str y=>exact match u,(h:IsS y u)with|_,.mk t=>⟨t,Option.some.inj e▸rfl⟩
  |_=>cases e
 |_=>cases e
theorem hH {α β:Type}{R:α→β→Prop}{x:α}{us:List β}:R2 R [x] us→∃ u,us=[u]∧R x u
 |.mk a r=>⟨_,by rw[show _=[]from r],a⟩
theorem oT {α β:Type}{R:α→β→Prop}{x y:α}{us:List β}:R2 R [x,y] us→∃ u v,us=[u,v]∧R x u∧R y v
 |.mk a r=>(hH r).elim fun v q=>⟨_,v,by rw[q.1],a,q.2⟩
theorem grown {h':Heap}{t:Nat}{RR:RT V Value}{u:Value}(z:At c n A W hp s)(hk:∀ b o,s.heap.get? b=some o→h'.get? b=some o)(x:RR W v u):Post c RR W hp s v hp u {s with heap:=h',toks:=t}:=
 .mk W (z.rel.via (k:=id) z.rel.len (fun a o e=>hk _ _ (z.rel.fz a o e)) (fun _ o v=>.mk o v rfl ((z.rel.obj _ _ v).imp (fun _=>hk _ _) fun _=>id) (z.rel.cold _ _ v)) fun _ _ _ _=>id)
  ⟨⟨.refl W,fun a o e=>⟨fun _=>hk a o e,id,⟨o,hk a o e⟩,fun _=>.inl⟩⟩,.refl _,rfl⟩ x
set_option genCtorIdx true in
inductive Bi where|len|ord|chr|max
noncomputable def Kl (i:String):Option Bi:=if i="len" then some .len else if i="ord" then some .ord else if i="chr" then some .chr else if i="max" then some .max else none
noncomputable def Gv:Bi→String
 |.len=>"len" |.ord=>"ord" |.chr=>"chr" |.max=>"max"
theorem OU {i:String}{b:Bi}(e:Kl i=some b):i=Gv b:=by
 unfold Kl at e
 split at e
 ·rename_i h;exact Option.some.inj e▸h
 split at e
 ·rename_i h;exact Option.some.inj e▸h
 split at e
 ·rename_i h;exact Option.some.inj e▸h
 split at e
 ·rename_i h;exact Option.some.inj e▸h
 ·cases e
noncomputable def Km (a b:Int):Int:=match kG a b with
 |true=>b
 |false=>a
noncomputable def Jl:Int→Bool
 |.ofNat n=>Nat.ble n 1114111
 |.negSucc _=>false
theorem BW {i:Int}(h:Jl i=true):0≤i∧i≤1114111:=by
 cases i with
 |ofNat n=>exact⟨Int.natCast_nonneg n,Int.ofNat_le.mpr (Nat.le_of_ble_eq_true h)⟩
 |negSucc n=>cases h
noncomputable abbrev BT (c:Cx)(n:Nat)(hp:List O)(b:Bi)(args:List V):V→List O→Prop:=fun v hp'=>Ti c n hp (fun us=>call (.builtin (Gv b)) us) c.VT args v hp'
noncomputable def SO (c:Cx)(n:Nat)(hp:List O)(v:V):(b:Bi)→Option (Rs V (BT c n hp b [v]))
 |.len=>GP v.strE (fun x e=>some ⟨.dat (.int x.length),hp,Nat.ble x.length lim,fun g _ _ _ _ z h=>(hH h).elim fun u q=>(k6 e q.2).elim fun t y=>by
   rw[q.1,y];exact PySem.P.len_str (x:=st x) (Int.not_le.mpr (oP g)) (i0 z)⟩)
  fun _=>tk (items v hp) fun xs e=>some ⟨.dat (.int xs.length),hp,Nat.ble xs.length lim,fun g _ _ _ _ z h=>(hH h).elim fun u q=>by
   rw[q.1]
   exact match u,eW z.rel q.2 e with
   |_,.mk a us k I d=>have l:us.toArray.size=xs.length:=List.size_toArray.trans (R2.len d);call_len_list ⟨_,I,rfl,k,rfl⟩ (by rw[l];exact oP g) (by rw[l];exact i0 z)⟩
 |.ord=>tk v.strE fun x e=>match x,e with
  | [a],e=>some ⟨.dat (.int a),hp,true,fun _ _ _ _ _ z h=>(hH h).elim fun u q=>(k6 e q.2).elim fun t y=>by
    rw[q.1,y];exact PySem.P.ord_of_char (i0 z)⟩
  |_,_=>none
 |.chr=>tk v.intE fun i e=>some ⟨.dat (.str [i.toNat]),hp,Jl i,fun g _ _ _ _ z h=>(hH h).elim fun u q=>(hG e q.2).elim fun t y=>by
   rw[q.1,y];exact chr_of_range (BW g).1 (BW g).2 (mC (x:=[i.toNat]) z)⟩
 |.max=>none
noncomputable def SP (c:Cx)(n:Nat)(hp:List O)(v w:V):(b:Bi)→Option (Rs V (BT c n hp b [v,w]))
 |.max=>tk v.intE fun a e=>tk w.intE fun b e2=>some ⟨.dat (.int (Km a b)),hp,true,fun _ _ _ _ _ z h=>(oT h).elim fun u q=>q.elim fun u' q=>(hG e q.2.1).elim fun t y=>(hG e2 q.2.2).elim fun t' y'=>by
   rw[q.1,y,y']
   refine max_two_ints z.room.hd fun h' k hk=>?_
   unfold Km
   rw[← f8]
   by_cases q:b>a
   ·rw[if_pos q,decide_eq_true q];exact grown z hk (.mk t')
   ·rw[if_neg q,decide_eq_false q];exact grown z hk (.mk t)⟩
 |_=>none
noncomputable def UK (c:Cx)(n:Nat)(hp:List O)(b:Bi):(args:List V)→Option (Rs V (BT c n hp b args))
 | [v]=>SO c n hp v b
 | [v,w]=>SP c n hp v w b
 |_=>none
theorem w9 {v:V}{ob:Obj}{t:Nat}(z:At c n A W hp s)(hf:ob.isFreed=false)(x:VR c.P (W.freeze s.heap.objs.size ob) v (.ref s.heap.objs.size)):Post c c.VT W hp s v hp (.ref s.heap.objs.size) {s with heap:=s.heap.push ob,toks:=t}:=
 have y:=z.rel.allocZ hf
 .mk _ y.1 (.of y.2) x
noncomputable abbrev TT (c:Cx)(n:Nat)(hp:List O)(t:String)(args:List V):V→List O→Prop:=fun v hp'=>Ti c n hp (fun us=>call (.type t) us) c.VT args v hp'
noncomputable def SQ (c:Cx)(n:Nat)(hp:List O)(t:String):(args:List V)→Option (Rs V (TT c n hp t args))
 | [v]=>tk v.intE fun b e=>some ⟨.rng 0 b,hp,decide (t="range"),fun g _ _ _ _ z h=>(hH h).elim fun u q=>(hG e q.2).elim fun _ y=>by
   rw[q.1,y,of_decide_eq_true g];exact call_range_1 (w9 z rfl (.mk _ _ _ _ (if_pos rfl)))⟩
 | [v,w]=>tk v.intE fun a e=>tk w.intE fun b e2=>some ⟨.rng a b,hp,decide (t="range"),fun g _ _ _ _ z h=>(oT h).elim fun u q=>q.elim fun u' q=>(hG e q.2.1).elim fun _ y=>(hG e2 q.2.2).elim fun _ y'=>by
   rw[q.1,y,y',of_decide_eq_true g];exact call_range_2 (w9 z rfl (.mk _ _ _ _ (if_pos rfl)))⟩
 |_=>none
set_option genCtorIdx true in
inductive Bm where|join|count|rfind|append|pop
noncomputable def Gw:Bm→String
 |.join=>"str.join" |.count=>"str.count" |.rfind=>"str.rfind" |.append=>"list.append" |.pop=>"list.pop"
inductive MC where
 |fn (f l:Nat)|val (v:V)|lst (l:Nat) (b:Bm)|str (s:List Nat) (b:Bm)
noncomputable def McR (P:Params):RT MC (Value×List Value):=fun W m x=>match m with
 |.fn f l=>l<W.n∧x=(.ref f,[.ref (W.ρ l)])
 |.val v=>∃ u,x=(u,[])∧VR P W v u
 |.lst l b=>l<W.n∧x=(.builtin (Gw b),[.ref (W.ρ l)])
 |.str s b=>∃ t,x=(.builtin (Gw b),[.str (st s) t])
theorem McR.mono {P:Params}{W':Wd}(l:W.le W'){x:Value×List Value}:∀ {m:MC},McR P W m x→McR P W' m x
 |.fn _ i,h=>⟨Nat.lt_of_lt_of_le h.1 l.n,l.ρ i h.1▸h.2⟩
 |.val _,⟨u,e,h⟩=>⟨u,e,h.mono l⟩
 |.lst i _,h=>⟨Nat.lt_of_lt_of_le h.1 l.n,l.ρ i h.1▸h.2⟩
 |.str _ _,h=>h
noncomputable def Jm:Nm:=[106,111,105,110]
noncomputable def BX:Nm:=[99,111,117,110,116]
noncomputable def BY:Nm:=[114,102,105,110,100]
noncomputable def yR:Nm:=[97,112,112,101,110,100]
noncomputable def OV:Nm:=[112,111,112]
theorem Gx:st Jm=("join" :Str):=by decide+kernel
theorem BZ:st BX=("count" :Str):=by decide+kernel
theorem Ba:st BY=("rfind" :Str):=by decide+kernel
theorem xA:st yR=("append" :Str):=by decide+kernel
theorem Kn:st OV=("pop" :Str):=by decide+kernel
noncomputable def Nz {α:Type}(b:Bool)(f:b=true→α)(g:α):α:=match b,f with
 |true,f=>f rfl
 |false,_=>g
noncomputable abbrev GT (c:Cx)(n:Nat)(hp:List O)(o:V)(m:Nm):MC→List O→Prop:=fun k hp'=>∀ pl,BK c n hp (fun u=>getMethod u (st m) pl) (McR c.P) o k hp'
section
variable {c:Cx}{n:Nat}{A:Around}{W:Wd}{hp hp':List O}{s:Shared}{u:Value}{m:Nm}{l:Nat}{I:Ins}{cl:Cl}{pl:Sem Bool}(z:At c n A W hp s)(h:VR c.P W (.ref l) u)
include z h
theorem Gy {y:V}(e:vA hp l=some I)(e2:yF c.G.cls I.c=some cl)(e3:lk I.es m=some y)(g:(hW m cl.fields&&y.plain)=true):c.wp A (getMethod u (st m) pl) (Post c (McR c.P) W hp s (.val y) hp) s:=match lP z.rel e,Jh e2,Bool.and_eq_true_iff.mp g with
 |.mk en k lv nd E gd a,C,⟨g1,g2⟩=>(E.find e3).elim fun w r=>by
  rw[show u=.ref (W.ρ l)from h.2]
  exact method_usual z.In a (plainGet_of C.get).1 (plainGet_of C.get).2 (C.fields m g1) rfl (get_value z.In a (plainGet_of C.get).1 (findObj_own C.dict (C.fields m g1) rfl (E.look _ _ _ _ _ r.1)) (V.plain_handed g2 r.2) (.tok z ⟨_,rfl,r.2⟩))
theorem Ko {f:Nat}(e:vA hp l=some I)(e2:yF c.G.cls I.c=some cl)(e3:lk I.es m=none)(e4:lk cl.meths m=some f):c.wp A (getMethod u (st m) pl) (Post c (McR c.P) W hp s (.fn f l) hp) s:=match lP z.rel e,Jh e2 with
 |.mk en k lv nd E gd a,C=>by
  rw[show u=.ref (W.ρ l)from h.2]
  have q:=C.meths m f e4
  exact method_fn z.In a (plainGet_of C.get).1 (plainGet_of C.get).2 q.find q.type (by unfold shadowIn;dsimp only;rw[E.look (.type "dict") none k #[] none (E.miss e3)];rfl) (.here z ⟨h.1,rfl⟩)
theorem yS {xs:List V}(e:hp[l]?.bind O.lstE=some xs){b:Bm}(sl:Slot "list" (st m) (Gw b))(ty:typeOf (Value.builtin (Gw b))=pure (Value.type "method_descriptor")):c.wp A (getMethod u (st m) pl) (Post c (McR c.P) W hp s (.lst l b) hp) s:=match z.rel.lst (fP e)with
 |.mk us k g d=>(show u=.ref (W.ρ l)from h.2)▸getMethod_list_of sl ty ⟨_,g,rfl,k,rfl⟩ ⟨_,g,rfl⟩ (.here z ⟨h.1,rfl⟩)
end
noncomputable def SR (c:Cx)(n:Nat)(hp:List O):(o:V)→(m:Nm)→Option (Rs MC (GT c n hp o m))
 |.dat (.str x),m=>Nz (nb m Jm) (fun e=>some ⟨.str x .join,hp,true,fun _ pl _ _ _ _ z (.mk t)=>by rw[iH e,Gx];exact GM.join (.here z ⟨t,rfl⟩)⟩)
  (Nz (nb m BX) (fun e=>some ⟨.str x .count,hp,true,fun _ pl _ _ _ _ z (.mk t)=>by rw[iH e,BZ];exact GM.count (.here z ⟨t,rfl⟩)⟩)
  (Nz (nb m BY) (fun e=>some ⟨.str x .rfind,hp,true,fun _ pl _ _ _ _ z (.mk t)=>by rw[iH e,Ba];exact GM.rfind (.here z ⟨t,rfl⟩)⟩) none))
 |.ref l,m=>GP (vA hp l) (fun I e=>tk (yF c.G.cls I.c) fun cl e2=>GP (lk I.es m) (fun y e3=>some ⟨.val y,hp,hW m cl.fields&&y.plain,fun g pl _ _ _ _ z h=>Gy z h e e2 e3 g⟩)
   fun e3=>tk (lk cl.meths m) fun f e4=>some ⟨.fn f l,hp,true,fun _ pl _ _ _ _ z h=>Ko z h e e2 e3 e4⟩)
  fun _=>tk (hp[l]?.bind O.lstE) fun xs e=>Nz (nb m yR) (fun q=>some ⟨.lst l .append,hp,true,fun _ pl _ _ _ _ z h=>yS z h e (iH q▸xA▸F.slot_list_append) F.type_list_append⟩)
   (Nz (nb m OV) (fun q=>some ⟨.lst l .pop,hp,true,fun _ pl _ _ _ _ z h=>yS z h e (iH q▸Kn▸F.slot_list_pop) F.type_list_pop⟩) none)
 |_,_=>none
noncomputable def yT (c:Cx)(n:Nat)(hp:List O)(m:MC)(args:List V)(v:V)(hp':List O):Prop:=
 ∀ A W s x vals,At c n A W hp s→McR c.P W m x→VRs c.P W args vals→Keep c.M s.heap x.1∧c.wp A (call x.1 (x.2++vals)) (Post c c.VT W hp s v hp') s
theorem OW {c:Cx}{n f l:Nat}{hp hp':List O}{args:List V}{v:V}(h:CallOk c n f (.ref l::args) hp v hp'):yT c n hp (.fn f l) args v hp':=fun A W s x vals z hf hv=>by
 rw[hf.2]
 exact⟨.of (keeps_K (yP h.fn) _ z.In),oR (h.run A W s _ z (.mk ⟨hf.1,rfl⟩ hv))⟩
theorem Kp {c:Cx}{n:Nat}{hp hp':List O}{args:List V}{f v:V}(h:GV c n hp f args v hp'):yT c n hp (.val f) args v hp':=fun A W s x vals z hf hv=>hf.elim fun u q=>by
 rw[q.1]
 exact h A W s u vals z q.2 hv
noncomputable def f9:List V→Option (List Nm)
 | []=>some []
 |v::r=>v.strE.bind fun x=>(f9 r).map (x::·)
theorem yU {P:Params}{W:Wd}:∀ {xs:List V} {ss:List Nm} {us:List Value},VRs P W xs us→f9 xs=some ss→∃ l:List (Str×Tok),us=strValues l∧l.map (·.1)=ss.map st
 | [],_,_,h,e=>by obtain rfl:_=[]:=h;cases e;exact⟨[],rfl,rfl⟩
 |_::_,_,_,.mk a r,e=>(bS e).elim fun x y=>(c9 y.2).elim fun ss q=>(yU r q.1).elim fun l w=>(k6 y.1 a).elim fun t ht=>⟨(st x,t)::l,by rw[ht,w.1];rfl,q.2▸congrArg (st x::·) w.2⟩
noncomputable def Gz (s y:Nm)(a b:Int):Int:=(occurrences (st s) (st y) (fromIndex (st s).length a) (min (fromIndex (st s).length b) (st s).length) ((st s).length+1)).length
noncomputable def Bb (s y:Nm)(a b:Int):Int:=match lastOccurrence (st s) (st y) (fromIndex (st s).length a) (min (fromIndex (st s).length b) (st s).length)with
 |some k=>(k:Int)
 |none=> -1
theorem tD (x y:Nm)(i j:Int)(t u v z:Tok):Gives (Builtin.«str.count» ⟨[.str (st x) t,.str (st y) u,.int i v,.int j z],[]⟩) (.int (Gz x y i j)):=.of_eq rfl
theorem tE (x y:Nm)(i j:Int)(t u v z:Tok):Gives (Builtin.«str.rfind» ⟨[.str (st x) t,.str (st y) u,.int i v,.int j z],[]⟩) (.int (Bb x y i j)):=by
 show Gives (match lastOccurrence (st x) (st y) (fromIndex (st x).length i) (min (fromIndex (st x).length j) (st x).length)with|some k=>retInt k|none=>(do rule "str.rfind.not-found";retInt (-1))) _
 unfold Bb
 cases lastOccurrence (st x) (st y) (fromIndex (st x).length i) (min (fromIndex (st x).length j) (st x).length)with
 |none=>exact .rule (.of_eq rfl)
 |some k=>exact .of_eq rfl
noncomputable def Jn:List V→Option (Int×Int)
 | [a,b]=>a.intE.bind fun a=>b.intE.map fun b=>(a,b)
 |_=>none
theorem Bc {P:Params}{W:Wd}{args:List V}{p:Int×Int}{us:List Value}(e:Jn args=some p)(h:VRs P W args us):∃ u v,us=[.int p.1 u,.int p.2 v]:=by
 cases args with
 |nil=>cases e
 |cons a r=>cases r with
  |nil=>cases e
  |cons b r=>cases r with
   |cons=>cases e
   |nil=>exact(bS e).elim fun a q=>(c9 q.2).elim fun b w=>(oT h).elim fun u r=>r.elim fun v r=>(hG q.1 r.2.1).elim fun t e2=>(hG w.1 r.2.2).elim fun t2 e3=>⟨t,t2,by rw[r.1,e2,e3,← w.2]⟩
noncomputable def Bd:List V→Option (Nm×Int×Int)
 | []=>none
 |x::r=>x.strE.bind fun x=>(Jn r).map fun p=>(x,p)
theorem vH {P:Params}{W:Wd}{args:List V}{p:Nm×Int×Int}{us:List Value}(e:Bd args=some p)(h:VRs P W args us):∃ t u v,us=[.str (st p.1) t,.int p.2.1 u,.int p.2.2 v]:=by
 cases args with
 |nil=>cases e
 |cons x r=>exact(bS e).elim fun x y=>(c9 y.2).elim fun q w=>match us,(h:Two (VR P W _) (R2 (VR P W) r) us)with
  |_,.mk h1 r=>(k6 y.1 h1).elim fun t e1=>(Bc w.1 r).elim fun u z=>z.elim fun v z=>⟨t,u,v,by rw[e1,z,← w.2]⟩
theorem oU {v:V}{xs:List V}{ss:List Nm}(e:items v hp=some xs)(e2:f9 xs=some ss)(g:Nat.ble ss.flatten.length lim=true):yT c n hp (.str [] .join) [v] (.dat (.str ss.flatten)) hp:=fun _ _ _ _ _ z ⟨t,h⟩ hv=>(hH hv).elim fun u q=>by
 rw[h,q.1]
 exact⟨.blt _,match u,eW z.rel q.2 e with
  |_,.mk a us k I d=>by
   obtain⟨l,rfl,hl⟩:=yU d e2
   exact SC.join ⟨_,I,rfl,k,rfl⟩ hl (AH ss (Nat.le_of_ble_eq_true g)) fun t' k=>by rw[show Txt.join (st []) (ss.map st)=st ss.flatten from congrArg Str.mk (congrArg List.toArray (BV ss))];exact mC z⟩
noncomputable def OX (c:Cx)(n:Nat)(hp:List O)(x:Nm)(args:List V):(b:Bm)→Option (Rs V (yT c n hp (.str x b) args))
 |.join=>match x,args with
  | [],[v]=>tk (items v hp) fun xs e=>tk (f9 xs) fun ss e2=>some ⟨.dat (.str ss.flatten),hp,Nat.ble ss.flatten.length lim,fun g=>oU e e2 g⟩
  |_,_=>none
 |.count=>tk (Bd args) fun p e=>some ⟨.dat (.int (Gz x p.1 p.2.1 p.2.2)),hp,true,fun _ _ _ _ _ _ z ⟨t,h⟩ hv=>(vH e hv).elim fun _ q=>q.elim fun _ q=>q.elim fun _ q=>by
   rw[h,q]
   exact⟨.blt _,call_gives F.slot_str_count (typeIs_str _ _ _) F.entry_str_count (F.args_str_count_4 _ _ _ _) (tD x p.1 p.2.1 p.2.2 _ _ _ _) (i0 z)⟩⟩
 |.rfind=>tk (Bd args) fun p e=>some ⟨.dat (.int (Bb x p.1 p.2.1 p.2.2)),hp,true,fun _ _ _ _ _ _ z ⟨t,h⟩ hv=>(vH e hv).elim fun _ q=>q.elim fun _ q=>q.elim fun _ q=>by
   rw[h,q]
   exact⟨.blt _,call_gives F.slot_str_rfind (typeIs_str _ _ _) F.entry_str_rfind (F.args_str_rfind_4 _ _ _ _) (tE x p.1 p.2.1 p.2.2 _ _ _ _) (i0 z)⟩⟩
 |_=>none
theorem pV {α:Type}:∀ (xs:List α),xs.eraseIdx (xs.length-1)=xs.take (xs.length-1)
 | []=>rfl
 | [_]=>rfl
 |x::y::r=>congrArg (x::·) (pV (y::r))
theorem HA {l:Nat}{xs:List V}{x:V}(e:hp[l]?.bind O.lstE=some xs)(ex:xs[xs.length-1]? =some x)(g:Nat.ble xs.length lim=true):yT c n hp (.lst l .pop) [] x (hp.set l (.lst (xs.take (xs.length-1)))):=fun _ _ _ _ vals z ⟨_,h⟩ hv=>by
 rw[h,show vals=[]from hv]
 exact⟨.blt _,match z.rel.lst (fP e)with
  |.mk us k I d=>(R2.at d ex).elim fun y q=>by
   have sz:us.toArray.size=xs.length:=List.size_toArray.trans (R2.len d)
   refine call_meets F.slot_list_pop ⟨_,I,rfl⟩ F.entry_list_pop (F.args_list_pop_1 _) (MeetsSeq.list_pop_last _ us.toArray k y (by rw[sz,List.getElem?_toArray];exact q.1) (by rw[sz];exact d9 g)) ⟨I,i8 z (fP e) I (R2.take (xs.length-1) d) ?_ q.2⟩
   rw[sz,← R2.len d,← pV,Array.eraseIdxIfInBounds]
   split
   ·simp
   ·rename_i q
    rw[List.size_toArray]at q
    cases us with
    |nil=>rfl
    |cons=>exact absurd (Nat.lt_of_lt_of_le (Nat.sub_lt (Nat.succ_pos _) Nat.one_pos) (Nat.le_refl _)) q⟩
noncomputable def OY (c:Cx)(n:Nat)(hp:List O)(l:Nat)(args:List V)(xs:List V)(e:hp[l]?.bind O.lstE=some xs):(b:Bm)→Option (Rs V (yT c n hp (.lst l b) args))
 |.append=>match args with
  | [x]=>some ⟨.dat .non,hp.set l (.lst (xs++[x])),Nat.ble xs.length lim,fun g _ _ _ _ _ z ⟨_,h⟩ hv=>(hH hv).elim fun u q=>by
   rw[h,q.1]
   exact⟨.blt _,match z.rel.lst (fP e)with
    |.mk us k I d=>call_meets F.slot_list_append ⟨_,I,rfl⟩ F.entry_list_append (F.args_list_append_2 _ _) (list_append _ us.toArray k u (by rw[List.size_toArray,R2.len d];exact d9 g)) ⟨I,i8 z (fP e) I (R2.app d (R2.one q.2)) (List.push_toArray ..) rfl⟩⟩⟩
  |_=>none
 |.pop=>match args,xs,e with
  | [],xs,e=>tk (xs[xs.length-1]?) fun x ex=>some ⟨x,hp.set l (.lst (xs.take (xs.length-1))),Nat.ble xs.length lim,fun g=>HA e ex g⟩
  | [i],x::r,e=>tk i.intE fun k e2=>Nz (rB k 0) (fun e3=>some ⟨x,hp.set l (.lst r),Nat.ble (r.length+1) lim,fun g _ _ _ _ _ z ⟨_,h⟩ hv=>(hH hv).elim fun u q=>(hG e2 q.2).elim fun t w=>by
   obtain rfl:k=0:=eq_of_beq ((eQ k 0).trans e3)
   rw[h,q.1,w]
   exact⟨.blt _,match z.rel.lst (fP e)with
    |.mk us k I d=>match us,(d:Two (VR c.P _ x) (R2 (VR c.P _) r) us),I with
     |_,.mk (a:=y) (l:=us) hy d,I=>call_meets F.slot_list_pop ⟨_,I,rfl⟩ F.entry_list_pop (F.args_list_pop_2 _ _) (MeetsSeq.list_pop_at _ (y::us).toArray k 0 t 0 y (by decide) (pR (k:=0) (n:=us.length+1) rfl).1 rfl (by rw[List.size_toArray,List.length_cons,R2.len d];exact d9 g)) ⟨I,i8 z (fP e) I d (by simp) hy⟩⟩⟩) none
  |_,_,_=>none
 |_=>none
noncomputable def UM (c:Cx)(n:Nat)(hp:List O)(args:List V):(m:MC)→Option (Rs V (yT c n hp m args))
 |.str x b=>OX c n hp x args b
 |.lst l b=>tk (hp[l]?.bind O.lstE) fun xs e=>OY c n hp l args xs e b
 |_=>none
end
end
section
noncomputable abbrev Cx.VTs (c:Cx):RT (List V) (List Value):=VRs c.P
noncomputable abbrev RE (c:Cx)(sc:aU)(n:Nat)(F:Fx)(hp:List O)(r:Expr):V→List O→Prop:=Run c sc n F hp (fun env=>eval r env) c.VT
noncomputable abbrev RB (c:Cx)(sc:aU)(n:Nat)(F:Fx)(hp:List O)(r:Expr):Bool→List O→Prop:=Run c sc n F hp (fun env=>isTrue r env (eval r env)) BJ
noncomputable abbrev Jo (c:Cx)(sc:aU)(n:Nat)(F:Fx)(hp:List O)(rs:List Expr):List V→List O→Prop:=Run c sc n F hp (fun env=>spliced (rs.map fun r=>(false,eval r env))) c.VTs
section
variable {c:Cx}{n:Nat}{A:Around}{W W1:Wd}{hp hp1 hp2:List O}{s s1:Shared}{α β:Type}{RR:RT β α}{b:β}
theorem iJ {m:Sem α}(L:Lat W hp s W1 hp1 s1)(h:c.wp A m (Post c RR W1 hp1 s1 b hp2) s1):c.wp A m (Post c RR W hp s b hp2) s1:=wpAny_mono h (fun _ _ p=>p.later L) fun _ _ f=>f
theorem Post.last {a:α}{t:Nat}(z:At c n A W1 hp1 s1)(L:Lat W hp s W1 hp1 s1)(x:RR W1 b a):Post c RR W hp s b hp1 a {s1 with toks:=t}:=.mk W1 z.rel ⟨L.e,L.g,L.o⟩ x
end
noncomputable def fC:Expr→Bool
 |.Starred .. =>false
 |_=>true
theorem gA (pos:Pos)(env:Env):∀ {rs:List Expr},rs.all fC=true→backTo pos (starEach rs env)=rs.map fun r=>(false,eval r env)
 | [],_=>rfl
 |r::rs,h=>by
  have h:=Bool.and_eq_true_iff.mp h
  have ih:=gA pos env h.2
  unfold backTo at ih ⊢
  cases r with
  |Starred=>exact nomatch h.1
  |_=>exact congrArg (List.cons (false,_)) ih
section
variable {M:Model}{A:Around}{s:Shared}{E:Value→Shared→Prop}{env:Env}
theorem HB {f:Value}{rs:List Expr}{Q:Args→Shared→Prop}(h:wpAny M A (spliced (rs.map fun r=>(false,eval r env))) (fun vs=>Q ⟨vs,[]⟩) E s):wpAny M A (evalArgs f true (rs.map fun r=>(false,eval r env)) []) Q E s:=by
 cases rs with
 |nil=>exact wpAny_bind (wpAny_mono h (fun vs s' h'=>wpAny_holding (wpAny_bind (wpAny_pure (wpAny_bind (wpAny_pure (wpAny_pure h')))))) fun _ _ x=>x)
 |cons r rs=>exact evalArgs_plain h
theorem Be {pos:Pos}{f:Value}{first:List Value}{rs:List Expr}{Q:Value→Shared→Prop}
  (h:wpAny M A (spliced (rs.map fun r=>(false,eval r env))) (fun vs s₁=>Keep M s₁.heap f∧wpAny M A (call f (first++vs)) Q E s₁) E s):wpAny M A (callWith pos f first (rs.map fun r=>(false,eval r env)) []) Q E s:=
 callWith_of (P:=fun h=>Keep M h f) (by simp) (fun _ k=>match k with|.mk k o l=>⟨k,o,l⟩) (HB h)
end
section
variable {c:Cx}{sc:aU}{n:Nat}{F:Fx}{hp hp1 hp2 hp3 hp4:List O}{p ap:Pos}{r g l x:Expr}{rs:List Expr}{u v w y:V}{us:List V}{k:Nat}
theorem HC:RE c sc n F hp (.Constant .none k p) (.dat .non) hp:=fun _ _ _ _ z=>wpAny_Constant_none (.here z.a rfl)
theorem HD {b:Bool}:RE c sc n F hp (.Constant (.bool b) k p) (.dat (.boo b)) hp:=fun _ _ _ _ z=>wpAny_Constant_bool (.here z.a rfl)
theorem HE {i:Int}:RE c sc n F hp (.Constant (.int i) k p) (.dat (.int i)) hp:=fun _ _ _ _ z=>wpAny_Constant_int (i0 z.a)
theorem HF {t:Str}:RE c sc n F hp (.Constant (.str t) k p) (.dat (.str t.cps.toList)) hp:=fun _ _ _ _ z=>wpAny_Constant_str (Kf z.a)
theorem HG {q:Str}(hk:sc.lookup q=some .local)(hd:(q==("__debug__" :Str))=false)(e:AD F q.cps.toList hp=some v):RE c sc n F hp (.Name q p) v hp:=fun _ _ _ _ z=>
 wpAny_Name (by have:=Jg (x:=q.cps.toList) z (by rw[bA];unfold Env.kindOf;rw[z.sc];exact hk) e;rwa [bA]at this) hd
theorem yV {q:Str}(hk:sc.lookup q=some .cell∨(sc.lookup q=some .free∧(q==("__classdict__" :Str))=false))(hd:(q==("__debug__" :Str))=false)(e:Ge F q.cps.toList hp=some v):RE c sc n F hp (.Name q p) v hp:=fun _ _ _ _ z=>
 wpAny_Name (by have:=ON (x:=q.cps.toList) z (by rw[bA];unfold Env.kindOf;rw[z.sc];exact hk) e;rwa [bA]at this) hd
theorem HH {q:Str}(hk:sc.lookup q=some .globalImplicit)(hd:(q==("__debug__" :Str))=false)(e:Gg c.G q.cps.toList=some v):RE c sc n F hp (.Name q p) v hp:=fun _ _ _ _ z=>
 wpAny_Name (by have:=OO (x:=q.cps.toList) z (by rw[bA];unfold Env.kindOf;rw[z.sc];exact hk) e;rwa [bA]at this) hd
theorem HI {a:Str}(hb:∀ env wh,attributeBase r a env wh=wh)(h1:RE c sc n F hp r u hp1)(h2:∀ e,BK c n hp1 (fun u=>getAttr u (st a.cps.toList) e) c.VT u v hp2):RE c sc n F hp (.Attribute r a p) v hp2:=fun A W s env z=>by
 rw[bA]at h2
 show wpAny _ _ (eval _ env) _ _ _
 rw[arm_eval_Attribute,hb]
 exact wpAny_bind (h1.go z fun W1 u1 s1 z1 L1 x1=>wpAny_bind (wpAny_standAt (wpAny_bind (wpAny_holding (wpAny_mono (h2 _ A W1 s1 u1 z1.a x1) (fun _ _ q=>wpAny_bind (wpAny_letTemporaryGo (wpAny_pure (q.later L1)))) fun _ _ f=>f)))))
theorem HJ:Jo c sc n F hp [] [] hp:=fun _ _ _ _ z=>spliced_nil (.here (b:=[]) z.a rfl)
theorem Bf (h1:RE c sc n F hp r u hp1)(h2:Jo c sc n F hp1 rs us hp2):Jo c sc n F hp (r::rs) (u::us) hp2:=fun A W s env z=>
 spliced_cons (h1.go z fun W1 u1 s1 z1 L1 x1=>h2.go z1 fun W2 us2 s2 z2 L2 x2=>.mk W2 z2.a.rel (L1.trans L2) (.mk (x1.mono L2.le) x2))
theorem HK (hn:rs.all fC=true)(ha:eval (.Call g rs [] p)=fun env=>(do callWith p (← eval g env) [] (backTo p (starEach rs env)) (backToKw p (keywordEach [] env))))(h1:RE c sc n F hp g u hp1)(h2:Jo c sc n F hp1 rs us hp2)(h3:GV c n hp2 u us v hp3):
  RE c sc n F hp (.Call g rs [] p) v hp3:=fun A W s env z=>by
 show wpAny _ _ (eval (.Call g rs [] p) env) _ _ _
 rw[ha]
 refine wpAny_bind (h1.go z fun W1 u1 s1 z1 L1 x1=>?_)
 rw[gA p env hn]
 exact Be (h2.go z1 fun W2 us2 s2 z2 L2 x2=>have q:=h3 A W2 s2 u1 us2 z2.a (x1.mono L2.le) x2;⟨q.1,iJ (L1.trans L2) q.2⟩)
theorem HL {a:Str}{m:MC}(hn:rs.all fC=true)(hl:rs.length<30)(hp':(ap.endLine==p.line)=true)(hb:∀ env wh,attributeBase r a env wh=wh)(h1:RE c sc n F hp r u hp1)(h2:GT c n hp1 u a.cps.toList m hp2)(h3:Jo c sc n F hp2 rs us hp3)(h4:yT c n hp3 m us v hp4):
  RE c sc n F hp (.Call (.Attribute r a ap) rs [] p) v hp4:=fun A W s env z=>by
 show wpAny _ _ (eval _ env) _ _ _
 rw[arm_eval_Call,hb]
 refine wpAny_bind (h1.go z fun W1 u1 s1 z1 L1 x1=>wpAny_bind (wpAny_standAt ?_))
 rw[gA p env hn]
 have few:methodCallForm (rs.length+([]:List Keyword).length) (rs.map fun r=>(false,eval r env)) (backToKw p (keywordEach [] env))=true:=by
  unfold methodCallForm
  exact Bool.and_eq_true_iff.mpr ⟨Bool.and_eq_true_iff.mpr ⟨by simp,rfl⟩,decide_eq_true hl⟩
 unfold methodCall
 rw[few]
 unfold calleeOf
 rw[if_pos rfl,← bA a]
 refine wpAny_bind (wpAny_holding (go z1.a (h2 _ A W1 s1 u1 z1.a x1) fun W2 fx s2 a2 L2 x2=>?_))
 have hpos:methodCallPos true r env ap p=pure p:=by
  unfold methodCallPos
  simp[hp']
 obtain⟨f,first⟩:=fx
 dsimp only
 rw[hpos]
 exact wpAny_bind (wpAny_pure (Be (h3.go (z1.next L2 a2) fun W3 us3 s3 z3 L3 x3=>have q:=h4 A W3 s3 (f,first) us3 z3.a (McR.mono L3.le x2) x3;⟨q.1,iJ ((L1.trans L2).trans L3) q.2⟩)))
noncomputable def kI:Expr→Bool
 |.Slice .. =>false
 |_=>true
noncomputable def mD (v:V)(hp:List O):Bool:=match v with
 |.dat (.str _)=>true
 |.dat (.dct _)=>true
 |v=>(items v hp).isSome||(iP v hp).isSome||(match v with|.ref l=>(hp[l]?.bind O.nsE).isSome|_=>false)
theorem Bg {A:Around}{W:Wd}{s:Shared}{v:V}{u:Value}(z:At c n A W hp s)(h:VR c.P W v u)(e:mD v hp=true):∃ T id,s.TypeIs u T∧typeLookup (.type T) "__getitem__" =pure (some (.builtin id)):=by
 have gen:((items v hp).isSome||(iP v hp).isSome||(match v with|.ref l=>(hp[l]?.bind O.nsE).isSome|_=>false))=true→∃ T id,s.TypeIs u T∧typeLookup (.type T) "__getitem__" =pure (some (.builtin id)):=fun e=>by
  rcases Bool.or_eq_true_iff.mp e with e|e
  ·rcases Bool.or_eq_true_iff.mp e with e|e
   ·exact(Option.isSome_iff_exists.mp e).elim fun xs q=>match u,eW z.rel h q with|_,.mk a us k I d=>⟨"list",_,⟨_,I,rfl⟩,slot_list_getitem.lookup⟩
   ·exact(Option.isSome_iff_exists.mp e).elim fun xs q=>match u,hU z.rel h q with|_,.mk a us k I d=>⟨"tuple",_,⟨_,I,rfl⟩,F.slot_tuple_getitem.lookup⟩
  ·cases v with
   |ref l=>exact(Option.isSome_iff_exists.mp e).elim fun es q=>match z.rel.ns (pL q)with|.mk en k g E _=>⟨"dict",_,(show u=.ref (W.ρ l)from h.2) ▸ ⟨_,g,rfl⟩,slot_dict_getitem.lookup⟩
   |_=>cases e
 cases v with
 |dat d=>cases d with
  |str x=>exact match u,(h:IsS x u)with|_,.mk t=>⟨"str",_,typeIs_str s _ t,F.slot_str_getitem.lookup⟩
  |dct es=>exact match u,(h:IsDct W.fz (DRe c.P W.fz es) u)with|_,.mk a en k f _=>⟨"dict",_,⟨_,z.rel.fz _ _ f,rfl⟩,slot_dict_getitem.lookup⟩
  |_=>exact gen e
 |_=>exact gen e
theorem HM (hn:kI x=true)(h1:RE c sc n F hp r u hp1)(h2:RE c sc n F hp1 x w hp2)(h:mD u hp2=true)(h3:bZ c n hp2 getItem c.VT u w v hp3):RE c sc n F hp (.Subscript r x p) v hp3:=fun A W s env z=>
 Subscript_ (h1.go z fun W1 u1 s1 z1 L1 x1=>h2.go z1 fun W2 u2 s2 z2 L2 x2=>(Bg z2.a (x1.mono L2.le) h).elim fun T q=>q.elim fun id q=>iJ (L1.trans L2) (tail_any (ops:=[u1,u2]) q.1 q.2 (h3 A W2 s2 u1 u2 z2.a (x1.mono L2.le) x2) (by cases x with
  |Slice=>exact nomatch hn
  |_=>rfl)))
end
end
section
open PySem.Builtin.Str (strSliceIndices)
noncomputable def mn (k n:Nat):Nat:=match Nat.ble k n with
 |true=>k
 |false=>n
noncomputable def yW (n d:Nat):Option Int→Nat
 |none=>d
 |some (.ofNat k)=>mn k n
 |some (.negSucc k)=>n - (k+1)
noncomputable def cut {α:Type}(xs:List α)(lo hi:Option Int):List α:=(xs.drop (yW xs.length 0 lo)).take (yW xs.length xs.length hi-yW xs.length 0 lo)
theorem nU (k n:Nat):mn k n=min k n:=by
 unfold mn
 cases h:Nat.ble k n with
 |true=>exact(Nat.min_eq_left (Nat.le_of_ble_eq_true h)).symm
 |false=>exact(Nat.min_eq_right (Nat.le_of_not_le fun q=>Bool.false_ne_true (h.symm.trans (Nat.ble_eq_true_of_le q)))).symm
theorem yX (n:Nat)(i:Int):max 0 (min (if i<0 then i+n else i) (n:Int))=(yW n 0 (some i):Int):=by
 cases i with
 |ofNat k=>
  rw[if_neg (Int.not_lt.mpr (Int.natCast_nonneg k):¬ Int.ofNat k<0),show yW n 0 (some (.ofNat k))=min k n from nU k n]
  show max 0 (min (k:Int) n)=_
  omega
 |negSucc k=>rw[if_pos (Int.negSucc_lt_zero k),show yW n 0 (some (.negSucc k))=n - (k+1)from rfl,Int.negSucc_eq];omega
theorem OZ (n d:Nat)(h:d≤n)(k:Option Int):yW n d k≤n:=by
 cases k with
 |none=>exact h
 |some i=>cases i with
  |ofNat k=>exact Nat.le_trans (Nat.le_of_eq (nU k n)) (Nat.min_le_right k n)
  |negSucc k=>exact Nat.sub_le _ _
theorem Bh (lo hi:Option Int)(n:Nat):strSliceIndices lo hi 1 n=(List.range (yW n n hi-yW n 0 lo)).map (yW n 0 lo+·):=by
 rw[← sliceRange_one]
 unfold strSliceIndices
 simp only[show(1:Int)>0 by decide,if_true]
 congr 1
 ·cases lo with
  |none=>rfl
  |some i=>exact yX n i
 ·cases hi with
  |none=>rfl
  |some i=>exact(yX n i).trans (by cases i <;>rfl)
theorem vI {α:Type}(xs:List α)(lo hi:Option Int):(strSliceIndices lo hi 1 xs.length).filterMap (xs[·]?)=cut xs lo hi:=by
 rw[Bh]
 have:=pick_run xs.toArray (yW xs.length 0 lo) (yW xs.length xs.length hi-yW xs.length 0 lo)
 unfold cut
 simpa using this
theorem hI {α:Type}(xs:List α)(lo hi:Option Int):(cut xs lo hi).length≤xs.length:=Nat.le_trans (List.length_take_le' ..) (List.length_drop▸Nat.sub_le _ _)
theorem Bj {α:Type}(xs:List α)(lo hi:Option Int)(h:(strSliceIndices lo hi 1 xs.length).length=xs.length):cut xs lo hi=xs:=by
 unfold cut
 rw[Bh,List.length_map,List.length_range]at h
 have h1:=OZ xs.length xs.length (Nat.le_refl _) hi
 cases xs with
 |nil=>rw[List.drop_nil,List.take_nil]
 |cons x r=>
  have a0:yW (x::r).length 0 lo=0:=by rw[List.length_cons]at *;omega
  rw[h,a0];exact List.take_length
noncomputable def SS:V→Option (Option Int)
 |.dat .non=>some none
 |.dat (.int k)=>some (some k)
 |_=>none
theorem mE {P:Params}{W:Wd}{v:V}{u:Value}{k:Option Int}(hv:VR P W v u)(e:SS v=some k):IsPart u k∧∃ p:Option (Int×Tok),u=partValue p∧p.map (·.1)=k:=by
 cases v with
 |dat d=>cases d with
  |non=>rw[show u=.none from hv,← Option.some.inj e];exact⟨.none,none,rfl,rfl⟩
  |int i=>exact match u,(hv:IsI i u)with|_,.mk t=>Option.some.inj e ▸ ⟨.int _ _,some (i,t),rfl,rfl⟩
  |_=>cases e
 |_=>cases e
noncomputable def Tl (c:Cx)(n:Nat)(hp:List O)(o lo hi v:V)(hp':List O):Prop:=
 ∀ A W s u vl vh sl,At c n A W hp s→VR c.P W o u→VR c.P W lo vl→VR c.P W hi vh→s.heap.IsSliceOf sl vl vh .none→c.wp A (getItem u (.ref sl)) (Post c c.VT W hp s v hp') s
noncomputable def SU (c:Cx)(n:Nat)(hp:List O)(o lo hi:V):Option (Rs V (Tl c n hp o lo hi)):=tk (SS lo) fun a ea=>tk (SS hi) fun b eb=>GP o.strE
 (fun x e=>some ⟨.dat (.str (cut x a b)),hp,Nat.ble x.length lim,fun g A W s u vl vh sl z ho h1 h2 hs=>by
  obtain⟨_,qa,rfl,ra⟩:=mE h1 ea
  obtain⟨_,qb,rfl,rb⟩:=mE h2 eb
  obtain⟨t,rfl⟩:=k6 e ho
  refine wpAny_getItem_str_slice (l:=qa) (u:=qb) (st:=none) hs rfl ?_
  have e1:slicePicked (st x) qa qb none=strSliceIndices a b 1 x.length:=by unfold slicePicked;rw[ra,rb,nG];rfl
  have e2:(⟨((slicePicked (st x) qa qb none).filterMap ((st x).cps[·]?)).toArray⟩:Str)=st (cut x a b):=by
   rw[e1,← vI]
   exact congrArg (fun f:Nat→Option Nat=>(⟨((strSliceIndices a b 1 x.length).filterMap f).toArray⟩:Str)) (funext fun i=>List.getElem?_toArray ..)
  unfold sliceMade
  split
  ·rename_i q
   have q:=eq_of_beq (Bool.and_eq_true_iff.mp q).2
   rw[e1,nG]at q
   rw[Bj x a b q]
   exact mC (k:=s.toks) z
  ·rw[e2]
   exact⟨Nat.le_trans (hI _ _ _) (d9 g),mC z⟩⟩)
 fun _=>tk (items o hp) fun xs e=>some ⟨.ref hp.length,hp++[.lst (cut xs a b)],Nat.ble xs.length lim,fun g A W s u vl vh sl z ho h1 h2 hs=>match u,eW z.rel ho e with
  |_,.mk l us k I d=>by
   refine wpAny_getItem_list_slice ⟨_,I,rfl,k,rfl⟩ hs (mE h1 ea).1 (mE h2 eb).1 .none nofun ?_ (by rw[List.size_toArray,R2.len d];exact d9 g)
   have e1:slicePick us.toArray a b none=(cut us a b).toArray:=by
    rw[← vI]
    unfold slicePick
    simp
    rfl
   rw[e1]
   have d2:VRs c.P W (cut xs a b) (cut us a b):=by
    unfold cut
    rw[R2.len d]
    exact R2.take _ (R2.drop _ d)
   exact pT z d2⟩
end
section
noncomputable abbrev RP (c:Cx)(sc:aU)(n:Nat)(F:Fx)(hp:List O)(r:Option Expr):V→List O→Prop:=Run c sc n F hp (fun env=>evalPart r env) c.VT
noncomputable abbrev RA (c:Cx)(sc:aU)(n:Nat)(F:Fx)(hp:List O)(op:BoolOp)(p:Pos)(rs:List Expr):V→List O→Prop:=Run c sc n F hp (fun env=>boolOp p op (evalEach rs env)) c.VT
noncomputable abbrev RL (c:Cx)(sc:aU)(n:Nat)(F:Fx)(hp:List O)(op:BoolOp)(rs:List Expr):Bool→List O→Prop:=Run c sc n F hp (fun env=>allTrue op rs env) BJ
section
variable {c:Cx}{W:Wd}{hp hp1:List O}{s s1:Shared}{b a:Bool}{u:Value}
theorem Tm:Post c tB W hp s b hp1 u s1→Post c c.VT W hp s (.dat (.boo b)) hp1 u s1
 |.mk W' r l x=>.mk W' r l x
theorem UN:Post c BJ W hp s b hp1 a s1→Post c c.VT W hp s (.dat (.boo !b)) hp1 (.bool !a) s1
 |.mk W' r l x=>.mk W' r l (congrArg (fun b=>Value.bool !b) (x:a=b))
theorem UO:Post c BJ W hp s b hp1 a s1→Post c BJ W hp s (!b) hp1 (!a) s1
 |.mk W' r l x=>.mk W' r l (congrArg (!·) (x:a=b))
end
noncomputable def lL:BoolOp→Bool
 |.And=>false
 |.Or=>true
section
variable {c:Cx}{sc:aU}{n:Nat}{F:Fx}{hp hp1 hp2 hp3 hp4 hp5:List O}{p ap pos:Pos}{r g l x m:Expr}{rs:List Expr}{u v w y:V}{us:List V}{k:Nat}{b b':Bool}
theorem Kq:RP c sc n F hp none (.dat .non) hp:=fun _ _ _ _ z=>wpAny_pure (.here z.a rfl)
theorem Kr (h:RE c sc n F hp r v hp1):RP c sc n F hp (some r) v hp1:=h
theorem HN {ol oh:Option Expr}(h1:RE c sc n F hp r u hp1)(h2:RP c sc n F hp1 ol v hp2)(h3:RP c sc n F hp2 oh w hp3)(h:mD u hp3=true)(h4:Tl c n hp3 u v w y hp4):RE c sc n F hp (.Subscript r (.Slice ol oh none ap) p) y hp4:=fun A W s env z=>
 Subscript_ (h1.go z fun W1 u1 s1 z1 L1 x1=>wpAny_Slice (h2.go z1 fun W2 u2 s2 z2 L2 x2=>h3.go z2 fun W3 u3 s3 z3 L3 x3=>wpAny_pure (by
  have q:=z3.a.rel.allocZ (ob:={cls:=.type "slice",data:=.fields #[u2,u3,.none]}) rfl
  have L:Lat W3 hp3 s3 _ hp3 {s3 with heap:=_}:=.of (t:=s3.toks) q.2
  have z4:At c n A _ hp3 {s3 with heap:=_}:=z3.a.next L q.1 (Nat.le_refl _)
  have x1':=((x1.mono L2.le).mono L3.le).mono L.le
  exact(Bg z4 x1' h).elim fun T t=>t.elim fun id t=>iJ (((L1.trans L2).trans L3).trans L) (tail_any (ops:=[.ref s3.heap.objs.size,u1]) t.1 t.2 (h4 A _ _ u1 u2 u3 _ z4 x1' ((x2.mono L3.le).mono L.le) (x3.mono L.le) ⟨_,Heap.get?_push_size _ rfl,rfl,rfl⟩) rfl))))
theorem HO (h1:RE c sc n F hp r (.dat (.int k)) hp1):RE c sc n F hp (.UnaryOp .USub r p) (.dat (.int (-(k:Int)))) hp1:=fun A W s env z=>
 wpAny_UnaryOp (h1.go z fun W1 u1 s1 z1 L1 x1=>match u1,(x1:IsI k u1)with|_,.mk _=>iJ L1 (PySem.P.neg_int (i0 z1.a)))
theorem HP {op:Op}(h1:RE c sc n F hp l u hp1)(h2:RE c sc n F hp1 r v hp2)(h3:bZ c n hp2 (binaryOp (iQ op)) c.VT u v w hp3):RE c sc n F hp (.BinOp l (iQ op) r p) w hp3:=fun A W s env z=>
 wpAny_BinOp (h1.go z fun W1 u1 s1 z1 L1 x1=>h2.go z1 fun W2 u2 s2 z2 L2 x2=>iJ (L1.trans L2) (h3 A W2 s2 u1 u2 z2.a (x1.mono L2.le) x2))
theorem HQ (hn:rs.all fC=true)(h:Jo c sc n F hp rs us hp1)(g:Nat.ble us.length lim=true):RE c sc n F hp (.List rs p) (.ref hp1.length) (hp1++[.lst us]):=fun A W s env z=>wpAny_List (by
 rw[gA p env hn]
 exact h.go z fun W1 u1 s1 z1 L1 x1=>⟨by rw[R2.len x1];exact d9 g,(pT (t:=s1.toks) z1.a x1).later L1⟩)
noncomputable def xB (xs:List V)(hp:List O):V×List O:=match n8 xs with
 |some ds=>(.dat (.tup ds),hp)
 |none=>(.ref hp.length,hp++[.tup xs])
theorem HR {A:Around}{W:Wd}{s:Shared}{xs:List V}{us:List Value}{t:Nat}(z:At c n A W hp s)(d:VRs c.P W xs us):Post c c.VT W hp s (xB xs hp).1 (xB xs hp).2 (.ref s.heap.objs.size) {s with heap:=s.heap.push {cls:=.type "tuple",data:=.seq us.toArray},toks:=t}:=by
 unfold xB
 cases e:n8 xs with
 |some ds=>exact w9 z rfl (.mk _ us 0 (if_pos rfl) (DRs.mono (Wd.le_freeze z.rel.new_cold).fz (oM d e)))
 |none=>
  have q:=z.rel.alloc (o:=.tup xs) (.mk us 0 (VRs.mono (Wd.le_push W _) d))
  exact .mk _ q.1 (.of q.2) ⟨z.rel.len▸Nat.lt_succ_self _,congrArg Value.ref (z.rel.push_at _).symm⟩
theorem HS (hn:rs.all fC=true)(h:Jo c sc n F hp rs us hp1)(g:Nat.ble us.length lim=true):RE c sc n F hp (.Tuple rs k p) (xB us hp1).1 (xB us hp1).2:=fun A W s env z=>wpAny_Tuple (by
 rw[gA p env hn]
 exact h.go z fun W1 u1 s1 z1 L1 x1=>⟨by rw[R2.len x1];exact d9 g,(HR (t:=s1.toks) z1.a x1).later L1⟩)
theorem HT {op:Cm}(hm:lastMarks [e9 op] [x]=false)(h1:RE c sc n F hp r u hp1)(h2:RE c sc n F hp1 x v hp2)(h3:bZ c n hp2 (compareOp (e9 op)) tB u v b hp3):RE c sc n F hp (.Compare r [e9 op] [x] p) (.dat (.boo b)) hp3:=fun A W s env z=>by
 show wpAny _ _ (eval _ env) _ _ _
 rw[arm_eval_Compare,markedEach_of_false _ _ _ hm]
 exact wpAny_bind (h1.go z fun W1 u1 s1 z1 L1 x1=>wpAny_bind (wpAny_holding (h2.go z1 fun W2 u2 s2 z2 L2 x2=>wpAny_bind (wpAny_standAt (wpAny_operate' (wpAny_mono (h3 A W2 s2 u1 u2 z2.a (x1.mono L2.le) x2) (fun _ _ q=>(Tm q).later (L1.trans L2)) fun _ _ f=>f))))))
theorem HU {op:Cm}(hm:lastMarks [e9 op] [x]=false)(h1:RE c sc n F hp r u hp1)(h2:RE c sc n F hp1 x v hp2)(h3:bZ c n hp2 (compareOp (e9 op)) tB u v b hp3):RB c sc n F hp (.Compare r [e9 op] [x] p) b hp3:=fun A W s env z=>by
 show wpAny _ _ (PySem.isTrue _ env _) _ _ _
 rw[arm_isTrue_Compare,markedEach_of_false _ _ _ hm]
 exact wpAny_bind (h1.go z fun W1 u1 s1 z1 L1 x1=>wpAny_bind (wpAny_holding (h2.go z1 fun W2 u2 s2 z2 L2 x2=>wpAny_bind (wpAny_standAt (wpAny_bind (wpAny_operate' (go z2.a (h3 A W2 s2 u1 u2 z2.a (x1.mono L2.le) x2) fun W3 u3 s3 a3 L3 x3=>x3▸wpAny_holding (wpAny_pure (.last (t:=s3.toks) a3 ((L1.trans L2).trans L3) rfl)))))))))
theorem HV {op op':Cm}(hm:lastMarks [e9 op,e9 op'] [m,x]=false)(h1:RE c sc n F hp r u hp1)(h2:RE c sc n F hp1 m v hp2)(h3:bZ c n hp2 (compareOp (e9 op)) tB u v b hp3)
  (h4:b=false→b'=false∧hp5=hp3)(h5:b=true→RE c sc n F hp3 x w hp4∧bZ c n hp4 (compareOp (e9 op')) tB v w b' hp5):RE c sc n F hp (.Compare r [e9 op,e9 op'] [m,x] p) (.dat (.boo b')) hp5:=fun A W s env z=>by
 refine Compare_chain (rs:=[]) (h1.go z fun W1 u1 s1 z1 L1 x1=>?_) hm
 refine wpAny_bind (wpAny_holding (h2.go z1 fun W2 u2 s2 z2 L2 x2=>wpAny_bind (wpAny_standAt (wpAny_bind (wpAny_holding (go z2.a (h3 A W2 s2 u1 u2 z2.a (x1.mono L2.le) x2) fun W3 u3 s3 a3 L3 x3=>?_))))))
 have L:=(L1.trans L2).trans L3
 rw[x3]
 refine wpAny_bind (wpAny_release (wpAny_bind (wpAny_holding (wpAny_pure ?_))))
 cases b with
 |false=>rw[(h4 rfl).1,(h4 rfl).2];exact wpAny_pure (.last (t:=s3.toks) a3 L rfl)
 |true=>exact wpAny_bind (wpAny_holding ((h5 rfl).1.go (z2.next L3 a3) fun W4 u4 s4 z4 L4 x4=>wpAny_bind (wpAny_standAt (wpAny_operate' (wpAny_mono ((h5 rfl).2 A W4 s4 u2 u4 z4.a ((x2.mono L3.le).mono L4.le) x4) (fun _ _ q=>(Tm q).later (L.trans L4)) fun _ _ f=>f)))))
theorem HW {op op':Cm}(hm:lastMarks [e9 op,e9 op'] [m,x]=false)(h1:RE c sc n F hp r u hp1)(h2:RE c sc n F hp1 m v hp2)(h3:bZ c n hp2 (compareOp (e9 op)) tB u v b hp3)
  (h4:b=false→b'=false∧hp5=hp3)(h5:b=true→RE c sc n F hp3 x w hp4∧bZ c n hp4 (compareOp (e9 op')) tB v w b' hp5):RB c sc n F hp (.Compare r [e9 op,e9 op'] [m,x] p) b' hp5:=fun A W s env z=>by
 refine isTrue_chain (rs:=[]) (h1.go z fun W1 u1 s1 z1 L1 x1=>?_) hm
 refine wpAny_bind (wpAny_holding (h2.go z1 fun W2 u2 s2 z2 L2 x2=>wpAny_bind (wpAny_standAt (wpAny_bind (wpAny_holding (go z2.a (h3 A W2 s2 u1 u2 z2.a (x1.mono L2.le) x2) fun W3 u3 s3 a3 L3 x3=>?_))))))
 have L:=(L1.trans L2).trans L3
 rw[x3]
 refine wpAny_bind (wpAny_release (wpAny_bind (wpAny_holding (wpAny_pure ?_))))
 cases b with
 |false=>rw[(h4 rfl).1,(h4 rfl).2];exact wpAny_pure (.last (t:=s3.toks) a3 L rfl)
 |true=>exact wpAny_bind (wpAny_holding ((h5 rfl).1.go (z2.next L3 a3) fun W4 u4 s4 z4 L4 x4=>wpAny_bind (wpAny_standAt (wpAny_bind (wpAny_operate' (go z4.a ((h5 rfl).2 A W4 s4 u2 u4 z4.a ((x2.mono L3.le).mono L4.le) x4) fun W5 u5 s5 a5 L5 x5=>x5▸wpAny_holding (wpAny_pure (.last (t:=s5.toks) a5 ((L.trans L4).trans L5) rfl))))))))
theorem HX (he:∀ env whole,PySem.isTrue r env whole=(do let v ← whole;standAt r.pos;holding [v] (truthy v)))(h1:RE c sc n F hp r u hp1)(h2:BK c n hp1 truthy BJ u b hp2):RB c sc n F hp r b hp2:=fun A W s env z=>
 wpAny_isTrue_value (h1.go z fun W1 u1 s1 z1 L1 x1=>iJ L1 (h2 A W1 s1 u1 z1.a x1)) (he env _)
theorem HY:RB c sc n F hp (.Constant (.bool b) k p) b hp:=fun A W s env z=>wpAny_isTrue_value (wpAny_Constant_bool (wpAny_pure (.here z.a rfl)))
theorem HZ (h1:RE c sc n F hp r u hp1)(h2:BK c n hp1 truthy BJ u b hp2):RE c sc n F hp (.UnaryOp .Not r p) (.dat (.boo !b)) hp2:=fun A W s env z=>
 wpAny_UnaryOp (h1.go z fun W1 u1 s1 z1 L1 x1=>not_value (wpAny_mono (h2 A W1 s1 u1 z1.a x1) (fun _ _ q=>(UN q).later L1) fun _ _ f=>f))
theorem Ha (h1:RB c sc n F hp r b hp1):RB c sc n F hp (.UnaryOp .Not r p) (!b) hp1:=fun A W s env z=>wpAny_isTrue_Not (wpAny_mono (h1 A W s env z) (fun _ _ q=>UO q) fun _ _ f=>f)
theorem yY (h1:RB c sc n F hp r b hp1)(h2:b=true→RE c sc n F hp1 l v hp2)(h3:b=false→RE c sc n F hp1 x v hp2):RE c sc n F hp (.IfExp r l x p) v hp2:=fun A W s env z=>
 wpAny_IfExp (h1.go z fun W1 a s1 z1 L1 x1=>by
  rw[show a=b from x1]
  cases b with
  |true=>exact iJ L1 (h2 rfl A W1 s1 env z1)
  |false=>exact iJ L1 (h3 rfl A W1 s1 env z1))
theorem yZ (h1:RB c sc n F hp r b hp1)(h2:b=true→RB c sc n F hp1 l b' hp2)(h3:b=false→RB c sc n F hp1 x b' hp2):RB c sc n F hp (.IfExp r l x p) b' hp2:=fun A W s env z=>by
 show wpAny _ _ (PySem.isTrue _ env _) _ _ _
 rw[arm_isTrue_IfExp]
 refine wpAny_bind (h1.go z fun W1 a s1 z1 L1 x1=>?_)
 rw[show a=b from x1]
 cases b with
 |true=>exact iJ L1 (h2 rfl A W1 s1 env z1)
 |false=>exact iJ L1 (h3 rfl A W1 s1 env z1)
theorem Ks {op:BoolOp}(h:RE c sc n F hp r v hp1):RA c sc n F hp op p [r] v hp1:=fun A W s env z=>by cases op <;>exact h A W s env z
theorem Bk {op:BoolOp}(h1:RE c sc n F hp r u hp1)(h2:BK c n hp1 truthy BJ u b hp2)(h3:b=lL op→v=u∧hp3=hp2)(h4:b= !lL op→RA c sc n F hp2 op p (x::rs) v hp3):RA c sc n F hp op p (r::x::rs) v hp3:=fun A W s env z=>by
 show wpAny _ A (do let v ← eval r env;standAt p;let t ← holding [v] (truthy v);match op,t with|.And,false|.Or,true=>pure v|_,_=>boolOp p op (evalEach (x::rs) env)) _ _ _
 refine wpAny_bind (h1.go z fun W1 u1 s1 z1 L1 x1=>wpAny_bind (wpAny_standAt (wpAny_bind (wpAny_holding (go z1.a (h2 A W1 s1 u1 z1.a x1) fun W2 a s2 a2 L2 x2=>?_)))))
 rw[show a=b from x2]
 have L:=L1.trans L2
 have y:b=lL op→wpAny c.M A (pure u1) (Post c c.VT W hp s v hp3) no s2:=fun e=>by rw[(h3 e).1,(h3 e).2];exact wpAny_pure (.last (t:=s2.toks) a2 L (x1.mono L2.le))
 have q:b= !lL op→wpAny c.M A (boolOp p op (evalEach (x::rs) env)) (Post c c.VT W hp s v hp3) no s2:=fun e=>iJ L (h4 e A W2 s2 env (z1.next L2 a2))
 cases op <;>cases b <;>first|exact y rfl|exact q rfl
theorem Hb {op:BoolOp}(h:RA c sc n F hp op p rs v hp1):RE c sc n F hp (.BoolOp op rs p) v hp1:=fun A W s env z=>by
 show wpAny _ _ (eval _ env) _ _ _
 rw[arm_eval_BoolOp]
 exact h A W s env z
theorem Kt {op:BoolOp}:RL c sc n F hp op [] (!lL op) hp:=fun A W s env z=>match op with
 |.And=>wpAny_allTrue_And_nil (.here z.a rfl)
 |.Or=>wpAny_allTrue_Or_nil (.here z.a rfl)
theorem Bl {op:BoolOp}(h1:RB c sc n F hp r b hp1)(h2:b=lL op→b'=b∧hp2=hp1)(h3:b= !lL op→RL c sc n F hp1 op rs b' hp2):RL c sc n F hp op (r::rs) b' hp2:=fun A W s env z=>by
 cases op with
 |And=>exact wpAny_allTrue_And_cons (h1.go z fun W1 a s1 z1 L1 x1=>by
   rw[show a=b from x1]
   cases b with
   |true=>exact iJ L1 (h3 rfl A W1 s1 env z1)
   |false=>rw[(h2 rfl).1,(h2 rfl).2];exact .last (t:=s1.toks) z1.a L1 rfl)
 |Or=>exact wpAny_allTrue_Or_cons (h1.go z fun W1 a s1 z1 L1 x1=>by
   rw[show a=b from x1]
   cases b with
   |false=>exact iJ L1 (h3 rfl A W1 s1 env z1)
   |true=>rw[(h2 rfl).1,(h2 rfl).2];exact .last (t:=s1.toks) z1.a L1 rfl)
theorem Hc {op:BoolOp}(h:RL c sc n F hp op rs b hp1):RB c sc n F hp (.BoolOp op rs p) b hp1:=fun A W s env z=>wpAny_isTrue_BoolOp (h A W s env z)
theorem Hd {ya yb t:Str}{ka kb:Nat}{pa pb:Pos}(hp':(ap.endLine==p.line)=true)(hb:∀ env wh,attributeBase r "replace" env wh=wh)(h1:RE c sc n F hp r (.dat (.str t.cps.toList)) hp1)
  (g1:nb ya.cps.toList yb.cps.toList=false)(g2:wX ya.cps.toList=true)(g3:Nat.ble t.cps.toList.length lim=true)(g4:Nat.ble yb.cps.toList.length 14=true):
  RE c sc n F hp (.Call (.Attribute r "replace" ap) [.Constant (.str ya) ka pa,.Constant (.str yb) kb pb] [] p) (.dat (.str (dL ya.cps.toList yb.cps.toList 0 t.cps.toList))) hp1:=fun A W s env z=>by
 have hn:([Expr.Constant (.str ya) ka pa,.Constant (.str yb) kb pb]:List Expr).all fC=true:=rfl
 show wpAny _ _ (eval _ env) _ _ _
 rw[arm_eval_Call,hb]
 refine wpAny_bind (h1.go z fun W1 u1 s1 z1 L1 x1=>wpAny_bind (wpAny_standAt ?_))
 obtain⟨t',rfl⟩:=k6 rfl x1
 rw[gA p env hn]
 unfold methodCall
 have few:methodCallForm (2+([]:List Keyword).length) (List.map (fun r=>(false,eval r env)) [Expr.Constant (.str ya) ka pa,.Constant (.str yb) kb pb]) (backToKw p (keywordEach [] env))=true:=rfl
 rw[show([Expr.Constant (.str ya) ka pa,.Constant (.str yb) kb pb]:List Expr).length=2 from rfl,few]
 unfold calleeOf
 rw[if_pos rfl]
 refine wpAny_bind (wpAny_holding (GM.replace ?_))
 have hpos:methodCallPos true r env ap p=pure p:=by
  unfold methodCallPos
  simp[hp']
 dsimp only
 rw[hpos]
 refine wpAny_bind (wpAny_pure (Be (spliced_cons (wpAny_Constant_str (spliced_cons (wpAny_Constant_str (spliced_nil ⟨.blt _,?_⟩)))))))
 have tk:=z1.a.tk
 refine SC.replaceW (Nat.ne_of_gt tk) (Nat.ne_of_gt (Nat.succ_pos _)) (Nat.ne_of_lt (Nat.lt_succ_self _)) ?_ (Nat.le_of_ble_eq_true g3) (Nat.le_of_ble_eq_true g4) fun t2 k=>?_
 ·rw[← bA ya,← bA yb,BQ];exact g1
 ·have e:=w8 t.cps.toList ya.cps.toList yb.cps.toList fun q=>by rw[q]at g2;cases g2
  rw[bA ya,bA yb]at e
  have e2:Txt.replace (st t.cps.toList) ya yb=st (dL ya.cps.toList yb.cps.toList 0 t.cps.toList):=(bA _).symm.trans (congrArg st e)
  rw[e2]
  exact(mC z1.a).later L1
noncomputable def PR (P:Params)(W:Wd):List Nm→List V→List (Value×Value)→Prop
 | [],vs,ps=>vs=[]∧ps=[]
 |x::ks,vs,ps=>∃ v vs' t u r,vs=v::vs'∧ps=(.str (st x) t,u)::r∧VR P W v u∧PR P W ks vs' r
noncomputable def rT:List Nm→List V→List (Nm×V)→List (Nm×V)
 |k::ks,v::vs,acc=>rT ks vs (pt acc k v)
 |_,_,acc=>acc
theorem pW {W:Wd}:∀ {ks:List Nm} {vs:List V} {ps:List (Value×Value)},PR c.P W ks vs ps→∃ kvs:List (Str×Value),Carries (SK c) ps kvs∧∀ (acc:List (Nm×V)) (racc:List (Str×Value)),R2 (KR c.P W) acc racc→(acc.map (·.1)).Nodup→
  R2 (KR c.P W) (rT ks vs acc) (merged racc kvs)∧((rT ks vs acc).map (·.1)).Nodup
 | [],_,_,⟨e,e'⟩=>by subst e e';exact⟨[],trivial,fun _ _ h1 h2=>⟨h1,h2⟩⟩
 |x::ks,_,_,⟨v,vs,t,u,r,e,e',a,b⟩=>by
  subst e e'
  obtain⟨kvs,c1,c2⟩:=pW b
  exact⟨(st x,u)::kvs,⟨beq_self_eq_true _,rfl,c1⟩,fun acc racc h1 h2=>c2 (pt acc x v) (PySem.stored racc (st x) u) (nF a h1 h2) (l9 x v h2)⟩
noncomputable abbrev RD (c:Cx)(sc:aU)(n:Nat)(F:Fx)(hp:List O)(p:Pos)(ks:List Nm)(keys:List (Option Expr))(rs:List Expr):List V→List O→Prop:=Run c sc n F hp (fun env=>evalPairs (pairTrees keys rs env p)) (fun W vs ps=>PR c.P W ks vs ps)
theorem Ku:RD c sc n F hp p [] [] [] [] hp:=fun _ _ _ _ z=>pairTrees_nil_walk (.here z.a ⟨rfl,rfl⟩)
theorem Kv {t:Str}{ks:List Nm}{keys:List (Option Expr)}(h1:RE c sc n F hp r u hp1)(h2:RD c sc n F hp1 p ks keys rs us hp2):RD c sc n F hp p (t.cps.toList::ks) (some (.Constant (.str t) k ap)::keys) (r::rs) (u::us) hp2:=fun A W s env z=>
 have L0:Lat W hp s W hp {s with toks:=s.toks+1}:=⟨.refl ..,.refl _,rfl⟩
 pairTrees_cons_walk (wpAny_Constant_str (h1.go (z.next L0 (z.a.next L0 z.a.rel (Nat.le_succ _))) fun W1 u1 s1 z1 L1 x1=>h2.go z1 fun W2 ps s2 z2 L2 x2=>.mk W2 z2.a.rel ((L0.trans L1).trans L2) ⟨u,us,s.toks,u1,ps,rfl,by rw[bA],x1.mono L2.le,x2⟩))
theorem He {ks:List Nm}{keys:List (Option Expr)}(g:(keys.all (·.isSome)&&(Nat.beq keys.length rs.length&&(wX keys&&Nat.ble keys.length 15)))=true)(h:RD c sc n F (hp++[.ns []]) p ks keys rs us hp1)(e:hp1[hp.length]?.bind O.nsE=some []):
  RE c sc n F hp (.Dict keys rs p) (.ref hp.length) (hp1.set hp.length (.ns (rT ks us []))):=fun A W s env z=>by
 have g:=Bool.and_eq_true_iff.mp g
 have g2:=Bool.and_eq_true_iff.mp g.2
 have g3:=Bool.and_eq_true_iff.mp g2.2
 refine wpAny_Dict_walk (knd:=SK c) g.1 (Nat.eq_of_beq_eq_true g2.1) (fun q=>by rw[q]at g3;cases g3.1) (Nat.le_of_ble_eq_true g3.2) ?_
 have q:=z.a.rel.alloc (o:=.ns []) (ob:={cls:=.type "dict",data:=.dict #[]}) ⟨List.nodup_nil,.mk [] 0 rfl⟩
 have L0:Lat W hp s _ _ {s with heap:=_}:=.of (t:=s.toks) q.2
 have lt:hp.length < (W.push s.heap.objs.size).n:=z.a.rel.len▸Nat.lt_succ_self _
 refine h.go (z.next L0 (z.a.next L0 q.1 (Nat.le_refl _))) fun W1 ps s1 z1 L1 x1=>?_
 obtain⟨kvs,c1,c2⟩:=pW x1
 have at_:W1.ρ hp.length=s.heap.objs.size:=(L1.le.ρ _ lt).trans (z.a.rel.push_at _)
 obtain⟨en,kk,g,E,nd⟩:=z1.a.rel.ns (pL e)
 obtain rfl:en=[]:=E
 rw[at_]at g
 refine⟨kvs,c1,⟨_,_,kk,g,⟨rfl,rfl,rfl⟩,rfl,fun e m=>absurd (List.mem_toArray.mp m) List.not_mem_nil,.nil,List.nodup_nil⟩,fun h' d sb=>?_⟩
 obtain⟨q1,q2⟩:=c2 [] [] rfl List.nodup_nil
 have y:=z1.a.rel.change (o':=.ns (rT ks us [])) (pL e) (fun b ne=>sb.2 b (at_▸ne)) (at_.symm▸rO d q1 q2)
 exact .mk W1 y.1 ⟨(L0.trans L1).e.trans y.2,(L0.trans L1).g,(L0.trans L1).o⟩ ⟨Nat.lt_of_lt_of_le lt L1.le.n,congrArg Value.ref at_.symm⟩
end
end
section
noncomputable abbrev RS (c:Cx)(sc:aU)(n:Nat)(F:Fx)(hp:List O)(t:Stmt):Fl→List O→Prop:=Run c sc n F hp (fun env=>exec t env) c.FT
noncomputable abbrev RX (c:Cx)(sc:aU)(n:Nat)(F:Fx)(hp:List O)(ts:List Stmt):Fl→List O→Prop:=Run c sc n F hp (fun env=>execs ts env) c.FT
noncomputable def RG (c:Cx)(sc:aU)(n:Nat)(F:Fx)(hp:List O)(r:Expr)(v:V)(hp':List O):Prop:=∀ A W s env u,AtF c sc n F hp A W s env→VR c.P W v u→c.wp A (assign r env u) (Post c u8 W hp s () hp') s
noncomputable def Oa (c:Cx)(sc:aU)(n:Nat)(F:Fx)(hp:List O)(rs:List Expr)(vs:List V)(hp':List O):Prop:=∀ A W s env us,AtF c sc n F hp A W s env→VRs c.P W vs us→c.wp A (assignInOrder (rs.map fun t=>assign t env) us) (Post c u8 W hp s () hp') s
noncomputable def Fl.goes:Fl→Bool
 |.next=>true
 |_=>false
noncomputable def mF:Expr→Bool
 |.ListComp .. =>false
 |.SetComp .. =>false
 |.DictComp .. =>false
 |_=>true
theorem lR {r:Expr}(h:mF r=true)(t:Option Expr)(l:Nat)(env:Env):swapsWith r t l env=pure false:=by
 cases r with
 |ListComp=>exact nomatch h
 |SetComp=>exact nomatch h
 |DictComp=>exact nomatch h
 |_=>rfl
theorem gB (env:Env):∀ {rs:List Expr},rs.all fC=true→assignEach rs env=rs.map fun r=>(false,assign r env)
 | [],_=>rfl
 |r::rs,h=>by
  have h:=Bool.and_eq_true_iff.mp h
  have ih:=gB env h.2
  cases r with
  |Starred=>exact nomatch h.1
  |_=>exact congrArg (List.cons (false,_)) ih
section
variable {c:Cx}{W:Wd}{hp hp1:List O}{s s1:Shared}
theorem Post.nxt:Post c u8 W hp s () hp1 () s1→Post c c.FT W hp s .next hp1 .next s1
 |.mk W' r l _=>.mk W' r l rfl
end
section
variable {c:Cx}{sc:aU}{n:Nat}{F:Fx}{hp hp1 hp2 hp3 hp4 hp5 hp6:List O}{p ap px:Pos}{r g l x m:Expr}{rs:List Expr}{u v w y:V}{us:List V}{k:Nat}{b:Bool}{t:Stmt}{ts ts2:List Stmt}{fl:Fl}{q:Str}
theorem Kw:RX c sc n F hp [] .next hp:=fun _ _ _ _ z=>wpAny_execs_nil (.here z.a rfl)
theorem k7 (h1:RS c sc n F hp t .next hp1)(h2:RX c sc n F hp1 ts fl hp2):RX c sc n F hp (t::ts) fl hp2:=fun A W s env z=>by
 show wpAny _ _ (execs _ env) _ _ _
 rw[execs_cons]
 exact wpAny_bind (h1.go z fun W1 f s1 z1 L1 x1=>(show f=.next from x1)▸iJ L1 (h2 A W1 s1 env z1))
theorem Hf (h1:RS c sc n F hp t fl hp1)(g:fl.goes=false):RX c sc n F hp (t::ts) fl hp1:=fun A W s env z=>by
 show wpAny _ _ (execs _ env) _ _ _
 rw[execs_cons]
 refine wpAny_bind (h1.go z fun W1 f s1 z1 L1 x1=>?_)
 have d:Post c c.FT W hp s fl hp1 f s1:=.last (t:=s1.toks) z1.a L1 x1
 cases fl with
 |next=>cases g
 |brk=>rw[show f=.brk from x1]at d ⊢;exact wpAny_pure d
 |cont=>rw[show f=.cont from x1]at d ⊢;exact wpAny_pure d
 |ret v=>exact(show ∃ u,f=.ret u∧VR c.P W1 v u from x1).elim fun u e=>by rw[e.1]at d ⊢;exact wpAny_pure d
theorem Kx (hc:mF r=true)(h:RE c sc n F hp r v hp1):RS c sc n F hp (.Expr r p) .next hp1:=fun A W s env z=>
 wpAny_Expr_any (h.go z fun W1 u1 s1 z1 L1 _=>.last (t:=s1.toks) z1.a L1 rfl) (by unfold interactive;rw[z.f.kind];rfl) (lR hc _ _ _)
theorem Ky (h:RE c sc n F hp r v hp1):RS c sc n F hp (.Return (some r) p) (.ret v) hp1:=fun A W s env z=>
 wpAny_Return_some (h.go z fun W1 u1 s1 z1 L1 x1=>.last (t:=s1.toks) z1.a L1 ⟨u1,rfl,x1⟩)
theorem Kz:RS c sc n F hp (.Break p) .brk hp:=fun _ _ _ _ z=>wpAny_Break (.here z.a rfl)
theorem LC:RS c sc n F hp (.Pass p) .next hp:=fun _ _ _ _ z=>wpAny_Pass (.here z.a rfl)
theorem LD {o:Option Expr}(h:RB c sc n F hp r true hp1):RS c sc n F hp (.Assert r o p) .next hp1:=fun A W s env z=>
 wpAny_Assert_holds (h.go z fun W1 a s1 z1 L1 x1=>⟨x1,.last (t:=s1.toks) z1.a L1 rfl⟩)
theorem Bn (h1:RB c sc n F hp r b hp1)(h2:b=true→RX c sc n F hp1 ts fl hp2)(h3:b=false→RX c sc n F hp1 ts2 fl hp2):RS c sc n F hp (.If r ts ts2 p) fl hp2:=fun A W s env z=>
 wpAny_If (h1.go z fun W1 a s1 z1 L1 x1=>by
  rw[show a=b from x1]
  cases b with
  |true=>exact iJ L1 (h2 rfl A W1 s1 env z1)
  |false=>exact iJ L1 (h3 rfl A W1 s1 env z1))
theorem cM (hk:sc.lookup q=some .local)(e:lO F q.cps.toList v hp=some hp1):RG c sc n F hp (.Name q p) v hp1:=fun A W s env u z hv=>
 wpAny_assign_Name (by have:=sY (x:=q.cps.toList) z (by rw[bA];unfold Env.kindOf;rw[z.sc];exact hk) hv e;rwa [bA]at this)
theorem LG (hk:sc.lookup q=some .cell)(e:Gf F q.cps.toList v hp=some hp1):RG c sc n F hp (.Name q p) v hp1:=fun A W s env u z hv=>
 wpAny_assign_Name (by have:=BL (x:=q.cps.toList) z (by rw[bA];unfold Env.kindOf;rw[z.sc];exact hk) hv e;rwa [bA]at this)
theorem LH (h1:RE c sc n F hp r u hp1)(h2:bZ c n hp1 (fun u w=>setAttr u (st q.cps.toList) w) u8 u v () hp2):RG c sc n F hp (.Attribute r q p) v hp2:=fun A W s env w z hv=>by
 rw[bA]at h2
 rw[arm_assign_Attribute]
 exact wpAny_bind (wpAny_holding (h1.go z fun W1 u1 s1 z1 L1 x1=>wpAny_bind (wpAny_standAt (wpAny_bind (wpAny_holding (wpAny_mono (h2 A W1 s1 u1 w z1.a x1 (hv.mono L1.le)) (fun _ _ q=>wpAny_release (q.later L1)) fun _ _ f=>f))))))
noncomputable abbrev LI (c:Cx)(n:Nat)(hp:List O)(o i x:V)(hp':List O):Prop:=∀ A W s u v w,At c n A W hp s→VR c.P W o u→VR c.P W i v→VR c.P W x w→c.wp A (setItem u v w) (Post c u8 W hp s () hp') s
theorem Bo (h1:RE c sc n F hp r u hp1)(h2:RE c sc n F hp1 x w hp2)(h3:LI c n hp2 u w v hp3):RG c sc n F hp (.Subscript r x p) v hp3:=fun A W s env y z hv=>by
 rw[arm_assign_Subscript]
 exact wpAny_bind (wpAny_holding (h1.go z fun W1 u1 s1 z1 L1 x1=>wpAny_bind (wpAny_holding (h2.go z1 fun W2 u2 s2 z2 L2 x2=>wpAny_bind (wpAny_standAt (wpAny_bind (wpAny_holding (wpAny_mono (h3 A W2 s2 u1 u2 y z2.a (x1.mono L2.le) x2 (hv.mono (L1.trans L2).le)) (fun _ _ q=>wpAny_release (q.later (L1.trans L2))) fun _ _ f=>f))))))))
theorem LJ:Oa c sc n F hp [] [] hp:=fun A W s env us z hv=>by
 obtain rfl:us=[]:=hv
 exact wpAny_pure (.here z.a trivial)
theorem Hg (h1:RG c sc n F hp r v hp1)(h2:Oa c sc n F hp1 rs us hp2):Oa c sc n F hp (r::rs) (v::us) hp2:=fun A W s env _ z (.mk (a:=u1) (l:=us1) hu hr)=>by
 show wpAny _ A (do holding us1 (assign r env u1);assignInOrder (rs.map fun t=>assign t env) us1) _ _ _
 exact wpAny_bind (wpAny_holding (go z.a (h1 A W s env u1 z hu) fun W1 _ s1 a1 L1 _=>iJ L1 (h2 A W1 s1 env us1 (z.next L1 a1) (VRs.mono L1.le hr))))
theorem strange {A:Around}{W:Wd}{s:Shared}{h':Heap}(z:At c n A W hp s)(kp:∀ b o,b≠s.heap.objs.size→s.heap.get? b=some o→h'.get? b=some o):Rel c.P W hp h'∧Lat W hp s W hp {s with heap:=h'}:=
 ⟨z.rel.poke z.rel.new_live z.rel.new_cold kp,.of (t:=s.toks) ((Ext.refl W hp s.heap).poke (match e:s.heap.get? s.heap.objs.size with|none=>rfl|some _=>absurd (Heap.lt_size e) (Nat.lt_irrefl _)) kp)⟩
theorem LK {vs:List V}(hn:rs.all fC=true)(hl:Nat.beq vs.length rs.length=true)(e:iP v hp=some vs)(h:Oa c sc n F hp rs vs hp1):RG c sc n F hp (.Tuple rs k p) v hp1:=fun A W s env u z hv=>match u,hU z.a.rel hv e with
 |_,.mk a us m I d=>by
  have el:=gB env hn
  refine wpAny_assign_Tuple z.a.room.hd (items:=us.toArray) ⟨_,I,rfl,m,rfl⟩ ?_ ?_ fun h' sb=>?_
  ·rw[el,List.length_map,List.size_toArray,R2.len d,Nat.eq_of_beq_eq_true hl]
  ·rw[el,List.findIdx?_map]
   exact List.findIdx?_eq_none_iff.mpr fun _ _=>rfl
  ·rw[el,List.map_map]
   have q:=strange z.a fun b o ne e=>sb b o ne e
   exact iJ q.2 (h A W _ env us (z.next q.2 (z.a.next q.2 q.1 (Nat.le_refl _))) d)
theorem LM (h0:(fC g&&mF r)=true)(hs:∀ env,env.scope.kind=.function→env.scope.names=sc→swappedStores [g] r env=pure none)(h1:RE c sc n F hp r v hp1)(h2:RG c sc n F hp1 g v hp2):RS c sc n F hp (.Assign [g] r p) .next hp2:=fun A W s env z=>by
 have h0:=Bool.and_eq_true_iff.mp h0
 refine wpAny_Assign_stores (h1.go z fun W1 u1 s1 z1 L1 x1=>?_) (lR h0.2 _ _ _) (hs env z.f.kind z.sc)
 have e:(assignEach [g] env).map (·.2)=[assign g env]:=by
  rw[gB env (rs:=[g]) (Bool.and_eq_true_iff.mpr ⟨h0.1,rfl⟩)]
  rfl
 rw[e]
 exact wpAny_mono (h2 A W1 s1 env u1 z1 x1) (fun _ _ q=>(q.nxt).later L1) fun _ _ f=>f
theorem LN {op:Op}(hk:sc.lookup q=some .local)(e:AD F q.cps.toList hp=some u)(h2:RE c sc n F hp r w hp1)(h3:bZ c n hp1 (inplaceOp (iQ op)) c.VT u w v hp2)(e2:lO F q.cps.toList v hp2=some hp3):RS c sc n F hp (.AugAssign (.Name q px) (iQ op) r p) .next hp3:=fun A W s env z=>by
 have hk':env.kindOf (st q.cps.toList)=some .local:=by rw[bA];unfold Env.kindOf;rw[z.sc];exact hk
 have l1:=Jg z hk' e
 rw[bA]at l1
 show wpAny _ _ (exec _ env) _ _ _
 rw[arm_exec_AugAssign]
 refine wpAny_bind (wpAny_standAt (wpAny_bind (go z.a l1 fun W1 u1 s1 a1 L1 x1=>wpAny_bind (wpAny_holding (h2.go (z.next L1 a1) fun W2 u2 s2 z2 L2 x2=>wpAny_bind (wpAny_standAt (wpAny_bind (wpAny_operate' (go z2.a (h3 A W2 s2 u1 u2 z2.a (x1.mono L2.le) x2) fun W3 u3 s3 a3 L3 x3=>?_)))))))))
 have s3':=sY (z2.next L3 a3) hk' x3 e2
 rw[bA]at s3'
 exact wpAny_bind (wpAny_standAt (wpAny_bind (wpAny_bindName (wpAny_mono s3' (fun _ _ q=>wpAny_pure (q.nxt.later ((L1.trans L2).trans L3))) fun _ _ f=>f))))
theorem LO {op:Op}(h1:RE c sc n F hp l y hp1)(h2:∀ e,BK c n hp1 (fun u=>getAttr u (st q.cps.toList) e) c.VT y u hp2)(h3:RE c sc n F hp2 r w hp3)(h4:bZ c n hp3 (inplaceOp (iQ op)) c.VT u w v hp4)(h5:bZ c n hp4 (fun u w=>setAttr u (st q.cps.toList) w) u8 y v () hp5):
  RS c sc n F hp (.AugAssign (.Attribute l q px) (iQ op) r p) .next hp5:=fun A W s env z=>by
 rw[bA]at h2 h5
 refine wpAny_AugAssign_AttributeAny (h1.go z fun W1 u1 s1 z1 L1 x1=>go z1.a (h2 _ A W1 s1 u1 z1.a x1) fun W2 u2 s2 a2 L2 x2=>h3.go (z1.next L2 a2) fun W3 u3 s3 z3 L3 x3=>go z3.a (h4 A W3 s3 u2 u3 z3.a (x2.mono L3.le) x3) fun W4 u4 s4 a4 L4 x4=>?_)
 exact wpAny_mono (h5 A W4 s4 u1 u4 a4 (((x1.mono L2.le).mono L3.le).mono L4.le) x4) (fun _ _ q=>q.nxt.later (((L1.trans L2).trans L3).trans L4)) fun _ _ f=>f
theorem LR {op:Op}(hn:kI x=true)(h1:RE c sc n F hp l y hp1)(h2:RE c sc n F hp1 x w hp2)(h3:bZ c n hp2 getItem c.VT y w u hp3)(h4:RE c sc n F hp3 r v hp4){v':V}(h5:bZ c n hp4 (inplaceOp (iQ op)) c.VT u v v' hp5)(h6:LI c n hp5 y w v' hp6):
  RS c sc n F hp (.AugAssign (.Subscript l x px) (iQ op) r p) .next hp6:=fun A W s env z=>by
 refine wpAny_AugAssign_SubscriptAny (h1.go z fun W1 u1 s1 z1 L1 x1=>h2.go z1 fun W2 u2 s2 z2 L2 x2=>go z2.a (h3 A W2 s2 u1 u2 z2.a (x1.mono L2.le) x2) fun W3 u3 s3 a3 L3 x3=>h4.go (z2.next L3 a3) fun W4 u4 s4 z4 L4 x4=>go z4.a (h5 A W4 s4 u3 u4 z4.a (x3.mono L4.le) x4) fun W5 u5 s5 a5 L5 x5=>?_)
  (by intro a b c;cases x with
  |Slice=>exact nomatch hn
  |_=>rfl)
 exact wpAny_mono (h6 A W5 s5 u1 u2 u5 a5 ((((x1.mono L2.le).mono L3.le).mono L4.le).mono L5.le) (((x2.mono L3.le).mono L4.le).mono L5.le) x5) (fun _ _ q=>q.nxt.later ((((L1.trans L2).trans L3).trans L4).trans L5)) fun _ _ f=>f
end
end
section
noncomputable def fN (a:Int):Nat→Nat→List V
 |0,_=>[]
 |n+1,i=>.dat (.int (a+i))::fN a n (i+1)
noncomputable def gT (a b:Int):Nat:=(b-a).toNat
theorem mG (a:Int):∀ (n i k:Nat),(fN a n i)[k]? =if k<n then some (.dat (.int (a+(i+k:Nat))))else none
 |0,_,_=>rfl
 |n+1,i,0=>rfl
 |n+1,i,k+1=>(mG a n (i+1) k).trans (by rw[Nat.add_right_comm,Nat.add_assoc];by_cases h:k<n;rw[if_pos h,if_pos (Nat.succ_lt_succ h)];rw[if_neg h,if_neg fun q=>h (Nat.lt_of_succ_lt_succ q)])
noncomputable def pX (x:Nm):List V:=x.map fun a=>.dat (.str [a])
noncomputable def e8 (v:V)(hp:List O):Option (List V):=match v with
 |.dat (.str x)=>some (pX x)
 |.dat (.tup ds)=>some (ds.map .dat)
 |.rng a b=>some (fN a (gT a b) 0)
 |v=>items v hp
noncomputable def vJ:V→Bool
 |.rng a b=>gH a&&gH b
 |_=>true
noncomputable def mH (it:Addr)(h h':Heap):Prop:=∀ b o,b≠it→h.get? b=some o→h'.get? b=some o
theorem fE {a:Addr}{h h':Heap}(x:Heap.SameBut a h h'):mH a h h':=fun b _ q e=>(x.2 b q).trans e
section
variable {c:Cx}
structure NextOk (c:Cx) (it:Addr) (Φ:Nat→Obj→Prop) (W:Wd) (hp:List O) (s:Shared) (k:Nat) (all:List V):Prop where
 item:∀ (x:V) (A:Around) (Q:Option Value→Shared→Prop),all[k]? =some x→
   (∀ h' t' u,VR c.P W x u→Got h' it (Φ (k+1))→mH it s.heap h'→Q (some u) {s with heap:=h',toks:=t'})→c.wp A (pyNext (.ref it)) Q s
 stop:∀ (A:Around) (Q:Option Value→Shared→Prop),A.handled=none→all[k]? =none→(∀ h' t',mH it s.heap h'→Q none {s with heap:=h',toks:=t'})→c.wp A (pyNext (.ref it)) Q s
noncomputable def vK (c:Cx)(it:Addr)(Φ:Nat→Obj→Prop)(v:V)(W0:Wd):Prop:=∀ W hp s k all,W0.le W→Rel c.P W hp s.heap→Got s.heap it (Φ k)→e8 v hp=some all→NextOk c it Φ W hp s k all
theorem AI {v:V}{u:Value}{it l:Addr}{W0:Wd}(hu:u=.ref l)(hv:VR c.P W0 v u)(hi:∀ hp xs,e8 v hp=some xs→items v hp=some xs):
  vK c it (fun k o=>o.cls=.type "list_iterator" ∧o.data=.fields #[.ref l,.int k 0]) v W0:=fun W hp s k all le R g e=>match g with
 |.mk o ho h=>by
  subst hu
  have I':s.heap.IsListIter it l k:=⟨o,ho,h.1,h.2⟩
  obtain⟨us,n,I,d⟩:∃ us n,s.heap.get? l=some ⟨.type "list",none,.seq (List.toArray us) n,#[]⟩∧VRs c.P W all us:=match eW R (hv.mono le) (hi _ _ e)with
   |.mk _ us n I d=>⟨us,n,I,d⟩
  have L:s.heap.IsList l us.toArray:=⟨_,I,rfl,n,rfl⟩
  exact⟨fun x A Q ex q=>(R2.at d ex).elim fun u r=>wpAny_pyNext_list_item I' L ((List.getElem?_toArray ..).trans r.1) fun h' ⟨o',g1,g2,g3⟩ sb=>q h' s.toks u r.2 (.mk o' g1 ⟨g2,g3⟩) (fE sb),
   fun A Q hh ex q=>wpAny_pyNext_list_end hh I' L (by rw[List.getElem?_toArray,List.getElem?_eq_none_iff,R2.len d];exact List.getElem?_eq_none_iff.mp ex) fun h' sb=>q h' s.toks fun b o q e=>sb b o q e⟩
theorem xC {v:V}{u:Value}{it l:Addr}{W0:Wd}(hu:u=.ref l)(hv:VR c.P W0 v u)(hi:∀ hp xs,e8 v hp=some xs→iP v hp=some xs):
  vK c it (fun k o=>o.cls=.type "tuple_iterator" ∧o.data=.fields #[.ref l,.int k 0]) v W0:=fun W hp s k all le R g e=>match g with
 |.mk o ho h=>by
  subst hu
  have I':s.heap.IsTupleIter it l k:=⟨o,ho,h.1,h.2⟩
  obtain⟨us,n,I,d⟩:∃ us n,s.heap.get? l=some ⟨.type "tuple",none,.seq (List.toArray us) n,#[]⟩∧VRs c.P W all us:=match hU R (hv.mono le) (hi _ _ e)with
   |.mk _ us n I d=>⟨us,n,I,d⟩
  have L:s.heap.IsTuple l us.toArray:=⟨_,I,rfl,n,rfl⟩
  exact⟨fun x A Q ex q=>(R2.at d ex).elim fun u r=>wpAny_pyNext_tuple_item I' L ((List.getElem?_toArray ..).trans r.1) fun h' ⟨o',g1,g2,g3⟩ sb=>q h' s.toks u r.2 (.mk o' g1 ⟨g2,g3⟩) (fE sb),
   fun A Q hh ex q=>wpAny_pyNext_tuple_end hh I' L (by rw[List.getElem?_toArray,List.getElem?_eq_none_iff,R2.len d];exact List.getElem?_eq_none_iff.mp ex) fun h' sb=>q h' s.toks fun b o q e=>sb b o q e⟩
theorem vL {x:Nm}{it:Addr}{t:Tok}{W0:Wd}{ty:String}(hty:ty="str_ascii_iterator" ∨ty="str_iterator"):
  vK c it (fun k o=>o.cls=.type ty∧o.data=.fields #[.str (st x) t,.int k 0]) (.dat (.str x)) W0:=fun W hp s k all le R g e=>match g with
 |.mk o ho h=>by
  cases e
  have I':s.heap.IsStrIter it ty (st x) t k:=⟨o,ho,h.1,h.2⟩
  have at_:(st x).cps[k]? =x[k]? :=List.getElem?_toArray ..
  refine⟨fun y A Q ex q=>?_,fun A Q hh ex q=>?_⟩
  ·obtain⟨a,ha,rfl⟩:=c9 (List.getElem?_map.symm.trans ex)
   rcases hty with rfl|rfl
   ·exact wpAny_pyNext_ascii_item I' (at_.trans ha) fun h' ⟨o',g1,g2,g3⟩ sb=>q h' (s.toks+1) _ (.mk _) (.mk o' g1 ⟨g2,g3⟩) (fE sb)
   ·exact wpAny_pyNext_wide_item I' (at_.trans ha) fun h' ⟨o',g1,g2,g3⟩ sb=>q h' (s.toks+1) _ (.mk _) (.mk o' g1 ⟨g2,g3⟩) (fE sb)
  ·have ha:x[k]? =none:=Option.map_eq_none_iff.mp (List.getElem?_map.symm.trans ex)
   rcases hty with rfl|rfl
   ·exact wpAny_pyNext_ascii_end hh I' (at_.trans ha) fun h' sb=>q h' s.toks fun b o q e=>sb b o q e
   ·exact wpAny_pyNext_wide_end hh I' (at_.trans ha) fun h' sb=>q h' s.toks fun b o q e=>sb b o q e
theorem Bp {a b:Int}{k:Nat}(h:k<gT a b):a<b∧0<b-a - (k:Int)∧a+(k:Int)+1=a+((k+1:Nat):Int)∧b-a - (k:Int)-1=b-a - ((k+1:Nat):Int):=by unfold gT at h;omega
theorem Hh {a b:Int}{k:Nat}(h:¬ k<gT a b):(if a<b then b-a else 0) - (k:Int)≤0:=by unfold gT at h;split <;>omega
theorem xD {a b:Int}{it:Addr}{W0:Wd}:vK c it (fun k o=>o={cls:=.type "range_iterator",data:=.fields #[rawInt (a+k),rawInt ((if a<b then b-a else 0)-k),rawInt 1]}) (.rng a b) W0:=fun W hp s k all le R g e=>match g with
 |.mk o ho h=>by
  cases e
  subst h
  have I':IsRangeIter s.heap it (a+k) ((if a<b then b-a else 0)-k) 1:=ho
  refine⟨fun y A Q ex q=>?_,fun A Q hh ex q=>?_⟩
  ·rw[mG]at ex
   by_cases h:k<gT a b
   ·rw[if_pos h,Nat.zero_add]at ex
    cases ex
    obtain⟨h1,h2,h3,h4⟩:=Bp h
    rw[if_pos h1]at I'
    refine wpAny_pyNext_range_item I' h2 fun h' g sb=>q h' (s.toks+1) _ (.mk _) (.mk _ g ?_) (fE sb)
    rw[if_pos h1,h3,h4]
   ·rw[if_neg h]at ex;cases ex
  ·rw[mG]at ex
   by_cases h:k<gT a b
   ·rw[if_pos h]at ex;cases ex
   ·exact wpAny_pyNext_range_end hh I' (Hh h) fun h' sb=>q h' s.toks fun b o q e=>sb b o q e
noncomputable def Bq:List String:=["enumerate","zip","dict_itemiterator","dict_reverseitemiterator","odict_iterator","itertools.zip_longest","itertools.pairwise"]
noncomputable def pY (c:Cx)(T:String):Prop:=∀ (A:Around) (s:Shared) (it:Addr) (Q:Value→Shared→Prop),s.TypeIs (.ref it) T→Q (.ref it) s→c.wp A (pyIter (.ref it)) Q s
theorem pZ {T id:String}{B:Builtin}{r:Value}(slot:Slot T "__iter__" id)(entry:entryFor table id=some B)(args:∀ v,argsOk id ⟨[v],[]⟩)(run:∀ v,B ⟨[v],[]⟩=ret v)(next:typeLookup (.type T) "__next__" =pure (some r)):pY c T:=fun A s it Q hT h=>by
 refine wpAny_pyIter_slot hT slot (wpAny_call_entry slot hT entry ?_ (args _))
 show wpAny _ _ (B ⟨[.ref it],[]⟩) _ _ s
 rw[run]
 exact wpAny_pure ⟨_,rfl,T,_,hT,next,h⟩
structure ItT (c:Cx) (o:Obj) (T:String):Prop where
 cls:o.cls=.type T
 own:Bq.contains T=false
 self:pY c T
noncomputable def y3 (c:Cx)(Φ:Nat→Obj→Prop):Prop:=∀ k o,Φ k o→∃ T,ItT c o T
theorem AJ:pY c "list_iterator" :=pZ slot_listiter_iter entry_listiter_iter args_listiter_iter (fun _=>rfl) slot_listiter_next.lookup
theorem xE:pY c "tuple_iterator" :=pZ F.slot_tuple_iterator_iter F.entry_tuple_iterator_iter F.args_tuple_iterator_iter_1 (fun _=>rfl) F.slot_tuple_iterator_next.lookup
theorem xF:pY c "str_ascii_iterator" :=pZ F.slot_str_ascii_iterator_iter F.entry_str_ascii_iterator_iter F.args_str_ascii_iterator_iter_1 (fun _=>rfl) F.slot_str_ascii_iterator_next.lookup
theorem AK:pY c "str_iterator" :=pZ F.slot_str_iterator_iter F.entry_str_iterator_iter F.args_str_iterator_iter_1 (fun _=>rfl) F.slot_str_iterator_next.lookup
theorem xG:pY c "range_iterator" :=pZ F.slot_range_iterator_iter F.entry_range_iterator_iter F.args_range_iterator_iter_1 (fun _=>rfl) F.slot_range_iterator_next.lookup
structure ItOk (c:Cx) (it:Addr) (ob:Obj) (Φ:Nat→Obj→Prop) (v:V) (W:Wd):Prop where
 free:ob.isFreed=false
 first:Φ 0 ob
 plain:y3 c Φ
 draws:vK c it Φ v W
section
variable {A:Around}{W:Wd}{hp:List O}{s:Shared}{u:Value}{Q:Value→Shared→Prop}
theorem y5 {v:V}{xs:List V}(R:Rel c.P W hp s.heap)(hv:VR c.P W v u)(e:items v hp=some xs)(hi:∀ hp xs,e8 v hp=some xs→items v hp=some xs)(h:∀ ob Φ,ItOk c s.heap.objs.size ob Φ v W→Q (.ref s.heap.objs.size) {s with heap:=s.heap.push ob}):c.wp A (pyIter u) Q s:=match u,eW R hv e,hv with
 |_,.mk a us n I d,hv=>wpAny_pyIter_list ⟨_,I,rfl,n,rfl⟩ (h _ _ ⟨rfl,⟨rfl,rfl⟩,fun _ _ q=>⟨_,q.1,by decide+kernel,AJ⟩,AI rfl hv hi⟩)
theorem Br (R:Rel c.P W hp s.heap):∀ {v:V} {all:List V},VR c.P W v u→e8 v hp=some all→vJ v=true→(∀ ob Φ,ItOk c s.heap.objs.size ob Φ v W→Q (.ref s.heap.objs.size) {s with heap:=s.heap.push ob})→c.wp A (pyIter u) Q s:=by
 intro v all hv e g h
 cases v with
 |dat d=>cases d with
  |str x=>exact match u,(hv:IsS x u)with
   |_,.mk t=>by
    cases ha:(st x).cps.all (· < 128)with
    |true=>exact wpAny_pyIter_ascii ha (h _ _ ⟨rfl,⟨rfl,rfl⟩,fun _ _ q=>⟨_,q.1,by decide+kernel,xF⟩,vL (.inl rfl)⟩)
    |false=>exact wpAny_pyIter_wide ha (h _ _ ⟨rfl,⟨rfl,rfl⟩,fun _ _ q=>⟨_,q.1,by decide+kernel,AK⟩,vL (.inr rfl)⟩)
  |tup ds=>exact match u,hU R hv (e:iP (.dat (.tup ds)) hp=some all),hv with
   |_,.mk a us n I d,hv=>wpAny_pyIter_tuple ⟨_,I,rfl,n,rfl⟩ (h _ _ ⟨rfl,⟨rfl,rfl⟩,fun _ _ q=>⟨_,q.1,by decide+kernel,xE⟩,xC rfl hv fun _ _ e=>e⟩)
  |_=>exact y5 R hv e (fun _ _ e=>e) h
 |rng a b=>exact match u,(hv:IsR W.fz a b u)with
  |_,.mk p t t' t'' f=>by
   have g:=Bool.and_eq_true_iff.mp g
   have kD:∀ {i:Int},gH i=true→ -4611686018427387904≤i∧i<4611686018427387904:=fun {i} g=>by
    cases i with
    |ofNat n=>have:n≤1048576:=Nat.le_of_ble_eq_true g;rw[Int.ofNat_eq_natCast];omega
    |negSucc n=>have:n≤1048576:=Nat.le_of_ble_eq_true g;rw[Int.negSucc_eq];omega
   have ga:=kD g.1
   have gb:=kD g.2
   refine wpAny_pyIter_range (R.fz _ _ f) (small_one ga.1 ga.2 gb.1 gb.2) (h _ _ ⟨rfl,?_,fun _ _ q=>⟨"range_iterator",by rw[q],by decide+kernel,xG⟩,xD⟩)
   rw[rangeSize_one,Int.natCast_zero,Int.add_zero,Int.sub_zero]
 |_=>exact y5 R hv e (fun _ _ e=>e) h
end
structure Away (W:Wd) (hp:List O) (h:Heap) (it:Addr) (Φ:Obj→Prop):Prop where
 ob:Got h it Φ
 nl:¬ Live W hp it
 nz:W.fz it=none
section
variable {W W' W1:Wd}{hp hp' hp1:List O}{h h' h1:Heap}{it:Addr}{Φ:Obj→Prop}
theorem Away.ext (x:Away W hp h it Φ)(E:Ext W hp h W' hp' h'):Away W' hp' h' it Φ:=match x.ob with
 |.mk o g r=>have X:=E.at_ it o g
  ⟨.mk o (X.keep x.nl) r,fun l=>x.nl (X.live l),match e:W'.fz it with
   |none=>rfl
   |some o'=>(X.cool o' e).elim (fun f=>(nT f x.nz).elim) fun l=>absurd l x.nl⟩
theorem nV (E:Ext W hp h W' hp' h'){a:Addr}(n:h'.get? a=none):h.get? a=none:=match e:h.get? a with
 |none=>rfl
 |some o=>(E.at_ a o e).ex.elim fun _ e'=>(nT e' n).elim
theorem mI (h:Heap):h.get? h.objs.size=none:=match e:h.get? h.objs.size with
 |none=>rfl
 |some o=>absurd (Heap.lt_size e) (Nat.lt_irrefl _)
theorem Rel.strange {P:Params}{ob:Obj}(R:Rel P W hp h):Rel P W hp (h.push ob)∧Ext W hp h W hp (h.push ob):=
 ⟨R.poke R.new_live R.new_cold fun _ _ _ e=>Heap.get?_push_of_some _ e,(Ext.refl W hp h).poke (mI h) fun _ _ _ e=>Heap.get?_push_of_some _ e⟩
end
noncomputable def Fl.on:Fl→Bool
 |.next=>true
 |.cont=>true
 |_=>false
noncomputable def Fl.stp:Fl→Option Fl
 |.brk=>some .next
 |.ret v=>some (.ret v)
 |_=>none
inductive Gc (base:Nat) (hp:List O):List O→Prop
 |id:Gc base hp hp
 |fold {fz τ:List Nat} {v:V} {hp':List O} (e:g5 base fz τ (.dat .non) hp=some (v,hp')):Gc base hp hp'
inductive WhlR (c:Cx) (sc:aU) (n:Nat) (F:Fx) (t:Expr) (body:List Stmt) (base:Nat):Nat→List O→Fl→List O→Prop
 |stop {m:Nat} {hp hp1:List O} (h1:RB c sc n F hp t false hp1):WhlR c sc n F t body base (m+1) hp .next hp1
 |turn {m:Nat} {hp hp1 hp2 hp3 hp4:List O} {fl fl':Fl} (h1:RB c sc n F hp t true hp1) (h2:RX c sc n F hp1 body fl hp2) (on:fl.on=true) (gc:Gc base hp2 hp3) (h3:WhlR c sc n F t body base m hp3 fl' hp4):WhlR c sc n F t body base (m+1) hp fl' hp4
 |out {m:Nat} {hp hp1 hp2:List O} {fl fl':Fl} (h1:RB c sc n F hp t true hp1) (h2:RX c sc n F hp1 body fl hp2) (out:fl.stp=some fl'):WhlR c sc n F t body base (m+1) hp fl' hp2
inductive ForR (c:Cx) (sc:aU) (n:Nat) (F:Fx) (g:Expr) (body:List Stmt) (base:Nat) (v:V):Nat→Nat→List O→Fl→List O→Prop
 |stop {m k:Nat} {hp:List O} {all:List V} (e:e8 v hp=some all) (x:all[k]? =none):ForR c sc n F g body base v (m+1) k hp .next hp
 |turn {m k:Nat} {hp hp1 hp2 hp3 hp4:List O} {all:List V} {y:V} {fl fl':Fl} (e:e8 v hp=some all) (x:all[k]? =some y) (h1:RG c sc n F hp g y hp1) (h2:RX c sc n F hp1 body fl hp2) (on:fl.on=true) (gc:Gc base hp2 hp3) (h3:ForR c sc n F g body base v m (k+1) hp3 fl' hp4):ForR c sc n F g body base v (m+1) k hp fl' hp4
 |out {m k:Nat} {hp hp1 hp2:List O} {all:List V} {y:V} {fl fl':Fl} (e:e8 v hp=some all) (x:all[k]? =some y) (h1:RG c sc n F hp g y hp1) (h2:RX c sc n F hp1 body fl hp2) (out:fl.stp=some fl'):ForR c sc n F g body base v (m+1) k hp fl' hp2
end
section
variable {c:Cx}{sc:aU}{n:Nat}{F:Fx}{A:Around}{W W1 W2:Wd}{hp hp1 hp2 hp3:List O}{s s1 s2:Shared}{env:Env}
inductive GcR (c:Cx) (n:Nat) (A:Around) (W:Wd) (hp:List O) (s:Shared) (W2:Wd) (hp2:List O) (hp3:List O) (s2:Shared):Prop
 |mk (W3:Wd) (z:At c n A W3 hp3 s2) (L:Lat W hp s W3 hp3 s2) (C:Tj W2 hp2 W3 hp3)
theorem Bs (z:At c n A W hp s)(z2:At c n A W2 hp2 s2)(L:Lat W hp s W2 hp2 s2)(g:Gc hp.length hp2 hp3):GcR c n A W hp s W2 hp2 hp3 s2:=by
 cases g with
 |id=>exact .mk W2 z2 L fun _ n z=>⟨n,z⟩
 |fold e=>exact match pO (u:=.none) (v:=.dat .non) (z.rel.len.symm▸e:g5 W.n _ _ (.dat .non) hp2=_) (.mk W2 z2.rel L.e rfl fun _ n z=>⟨n,z⟩)with
  |.mk W3 R E _ C=>.mk W3 ⟨z2.room,R,fun a o e=>E.le.fz a o (z.kin a o e),z2.tk⟩ ⟨E,L.g,L.o⟩ C
theorem Bt {P:Params}{fl:Fl}{f:Flow}(x:Ji P W fl f)(h:fl.on=true):f=.next∨f=.cont:=by
 cases fl with
 |next=>exact .inl x
 |cont=>exact .inr x
 |_=>cases h
theorem Bu {P:Params}{fl fl':Fl}{f:Flow}(x:Ji P W fl f)(h:fl.stp=some fl'):(f=.brk∧Ji P W fl' .next)∨∃ v,f=.ret v∧Ji P W fl' (.ret v):=by
 cases fl with
 |brk=>exact .inl ⟨x,Option.some.inj h▸rfl⟩
 |ret w=>exact .inr (x.elim fun u q=>⟨u,q.1,Option.some.inj h ▸ ⟨u,rfl,q.2⟩⟩)
 |_=>cases h
inductive WhI (c:Cx) (sc:aU) (n:Nat) (F:Fx) (t:Expr) (body:List Stmt) (fl:Fl) (hp':List O) (A:Around) (W:Wd) (hp:List O) (s:Shared) (env:Env) (m:Nat) (s1:Shared):Prop
 |mk (W1:Wd) (hp1:List O) (z:AtF c sc n F hp1 A W1 s1 env) (l:Lat W hp s W1 hp1 s1) (h:WhlR c sc n F t body hp.length m hp1 fl hp'):WhI c sc n F t body fl hp' A W hp s env m s1
theorem tF {t:Expr}{body:List Stmt}{p:Pos}{m:Nat}{fl:Fl}{hp':List O}(h:WhlR c sc n F t body hp.length m hp fl hp'):RS c sc n F hp (.While t body [] p) fl hp':=fun A W s env z=>by
 refine wpAny_While (codeAny_whileLoop (WhI c sc n F t body fl hp' A W hp s env) ?_ m (.mk W hp z (.refl ..) h))
 rintro m s1 ⟨W1,hp1,z1,L1,h⟩
 cases h with
 |stop h1=>exact wpAny_mono (h1.go z1 (Z:=fun b s2=>if b=true then _ else _) fun W2 b s2 z2 L2 x2=>by
   rw[show b=false from x2]
   exact wpAny_execs_nil (.last (t:=s2.toks) z2.a (L1.trans L2) rfl)) (fun _ _ x=>x) fun _ _ f=>f.elim
 |turn h1 h2 on gc h3=>exact wpAny_mono (h1.go z1 (Z:=fun b s2=>if b=true then _ else _) fun W2 b s2 z2 L2 x2=>by
   rw[show b=true from x2]
   refine wpAny_mono (h2.go z2 fun W3 f s3 z3 L3 x3=>?_) (fun _ _ x=>x) fun _ _ f=>f.elim
   match Bs z.a z3.a ((L1.trans L2).trans L3) gc with
   |.mk W4 z4 L4 _=>
    rcases Bt x3 on with rfl|rfl
    ·exact⟨_,Nat.lt_succ_self _,.mk W4 _ (z.next L4 z4) L4 h3⟩
    ·exact⟨_,Nat.lt_succ_self _,.mk W4 _ (z.next L4 z4) L4 h3⟩) (fun _ _ x=>x) fun _ _ f=>f.elim
 |out h1 h2 out=>exact wpAny_mono (h1.go z1 (Z:=fun b s2=>if b=true then _ else _) fun W2 b s2 z2 L2 x2=>by
   rw[show b=true from x2]
   refine wpAny_mono (h2.go z2 fun W3 f s3 z3 L3 x3=>?_) (fun _ _ x=>x) fun _ _ f=>f.elim
   have L:=(L1.trans L2).trans L3
   rcases Bu x3 out with⟨rfl,x⟩|⟨v,rfl,x⟩
   ·exact .last (t:=s3.toks) z3.a L x
   ·exact .last (t:=s3.toks) z3.a L x) (fun _ _ x=>x) fun _ _ f=>f.elim
theorem vN {it:Addr}{Φ Ψ:Obj→Prop}{h':Heap}{t:Nat}(z:AtF c sc n F hp1 A W1 s1 env)(L:Lat W hp s W1 hp1 s1)(nn:s.heap.get? it=none)(a:Away W1 hp1 s1.heap it Φ)(kp:mH it s1.heap h')(tk:s1.toks≤t):
  AtF c sc n F hp1 A W1 {s1 with heap:=h',toks:=t} env∧Lat W hp s W1 hp1 {s1 with heap:=h',toks:=t}∧(Got h' it Ψ→Away W1 hp1 h' it Ψ):=
 ⟨⟨⟨z.a.room,z.a.rel.poke a.nl a.nz kp,z.a.kin,Nat.lt_of_lt_of_le z.a.tk tk⟩,z.f,z.sc⟩,⟨L.e.poke nn kp,L.g,L.o⟩,fun g=>⟨g,a.nl,a.nz⟩⟩
structure FQ where
 c:Cx
 sc:aU
 n:Nat
 F:Fx
 y:Str
 px:Pos
 body:List Stmt
 v:V
 A:Around
 W:Wd
 hp:List O
 s:Shared
 env:Env
 it:Addr
 Φ:Nat→Obj→Prop
inductive FoI (q:FQ) (fl:Fl) (hp':List O) (m:Nat) (s2:Shared):Prop
 |mk (k:Nat) (W2:Wd) (hp2:List O) (z:AtF q.c q.sc q.n q.F hp2 q.A W2 s2 q.env) (l:Lat q.W q.hp q.s W2 hp2 s2) (aw:Away W2 hp2 s2.heap q.it (q.Φ k)) (h:ForR q.c q.sc q.n q.F (.Name q.y q.px) q.body q.hp.length q.v m k hp2 fl hp'):FoI q fl hp' m s2
structure FoB (q:FQ) (ob:Obj):Prop where
 I:ItOk q.c q.it ob q.Φ q.v q.W
 z:AtF q.c q.sc q.n q.F q.hp q.A q.W q.s q.env
 nn:q.s.heap.get? q.it=none
theorem vO {q:FQ}{k:Nat}{W2:Wd}{hp2 hp3 hp4:List O}{s2:Shared}{y:V}{u:Value}{fl:Fl}(z:AtF q.c q.sc q.n q.F hp2 q.A W2 s2 q.env)(l:Lat q.W q.hp q.s W2 hp2 s2)(aw:Away W2 hp2 s2.heap q.it (q.Φ k))(hu:VR q.c.P W2 y u)
  (g1:RG q.c q.sc q.n q.F hp2 (.Name q.y q.px) y hp3)(g2:RX q.c q.sc q.n q.F hp3 q.body fl hp4){Q:Flow→Shared→Prop}{E1 E2:Value→Shared→Prop}
  (h:∀ f W4 s4,AtF q.c q.sc q.n q.F hp4 q.A W4 s4 q.env→Lat q.W q.hp q.s W4 hp4 s4→Away W4 hp4 s4.heap q.it (q.Φ k)→Ji q.c.P W4 fl f→Q f s4):wpAny q.c.M q.A (assign (.Name q.y q.px) q.env u) (fun _ s₂=>wpAny q.c.M q.A (execs q.body q.env) Q E2 s₂) E1 s2:=
 wpAny_mono (go z.a (g1 q.A W2 _ q.env u z hu) fun _ _ _ a3 L3 _=>wpAny_mono (g2.go (z.next L3 a3) fun W4 f s4 z4 L4 x4=>h f W4 s4 z4 ((l.trans L3).trans L4) ((aw.ext L3.e).ext L4.e) x4) (fun _ _ x=>x) fun _ _ f=>f.elim) (fun _ _ x=>x) fun _ _ f=>f.elim
theorem Bv {q:FQ}{ob:Obj}(B:FoB q ob){fl:Fl}{hp':List O}{m:Nat}{s':Shared}(h:FoI q fl hp' m s'){R:Result→Shared→Prop}(hR:∀ f W' s',At q.c q.n q.A W' hp' s'→Lat q.W q.hp q.s W' hp' s'→Ji q.c.P W' fl f→R (.ok f) s'):
  codeAny q.c.M q.A (.forLoop (.Name q.y q.px) (.ref q.it) q.body [] q.env) R s':=by
 refine codeAny_forLoop (FoI q fl hp') ?_ m h
 rintro m s2 ⟨k,W2,hp2,z2,L2,aw,h⟩
 have draw:=fun all e=>B.I.draws W2 hp2 s2 k all L2.le z2.a.rel aw.ob e
 refine wpAny_mono (wpAny_with_toks (E:=no) (Nat.le_refl s2.toks) (wpAny_mono (E:=no) ?_ (fun _ _ q=>q) fun _ _ f=>f.elim)) (fun _ _ x=>x) fun _ _ f=>f.elim
 cases h with
 |stop e x=>
  refine(draw _ e).stop q.A _ z2.a.room.hd x ?_
  intro h' t' kp (tk:s2.toks≤t')
  have p:=vN (Ψ:=fun _=>True) z2 L2 B.nn aw kp tk
  exact wpAny_execs_nil (hR _ _ _ p.1.a p.2.1 rfl)
 |turn e x g1 g2 on gc g3=>
  refine(draw _ e).item _ q.A _ x ?_
  intro h' t' u' hu g kp (tk:s2.toks≤t')
  have p:=vN (Ψ:=q.Φ (k+1)) z2 L2 B.nn aw kp tk
  refine vO p.1 p.2.1 (p.2.2 g) hu g1 g2 fun f W4 s4 z4 L4 aw4 x4=>?_
  obtain⟨W5,z5,L5,C5⟩:=Bs B.z.a z4.a L4 gc
  have c5:=C5 _ aw4.nl aw4.nz
  have I5:=FoI.mk (q:=q) (k+1) W5 _ (B.z.next L5 z5) L5 ⟨aw4.ob,c5.1,c5.2⟩ g3
  rcases Bt x4 on with rfl|rfl
  ·exact⟨_,Nat.lt_succ_self _,I5⟩
  ·exact⟨_,Nat.lt_succ_self _,I5⟩
 |out e x g1 g2 out=>
  refine(draw _ e).item _ q.A _ x ?_
  intro h' t' u' hu g kp (tk:s2.toks≤t')
  have p:=vN (Ψ:=q.Φ (k+1)) z2 L2 B.nn aw kp tk
  refine vO p.1 p.2.1 (p.2.2 g) hu g1 g2 fun f W4 s4 z4 L4 aw4 x4=>?_
  rcases Bu x4 out with⟨rfl,x⟩|⟨v,rfl,x⟩
  ·exact hR _ _ _ z4.a L4 x
  ·exact hR _ _ _ z4.a L4 x
theorem kJ {i:Expr}{y:Str}{px p:Pos}{body:List Stmt}{m:Nat}{v:V}{fl:Fl}{hp':List O}(hf:∀ env x,foldedSetIterable i env x=pure x)(h1:RE c sc n F hp i v hp1)(hr:vJ v=true)(hi:(e8 v hp1).isSome=true)
  (h:ForR c sc n F (.Name y px) body hp1.length v m 0 hp1 fl hp'):RS c sc n F hp (.For (.Name y px) i body [] p) fl hp':=fun A W s env z=>by
 refine wpAny_For (h1.go z fun W1 u s1 z1 L1 x1=>?_) (hf env)
 refine(Option.isSome_iff_exists.mp hi).elim fun all e=>Br z1.a.rel x1 e hr fun ob Φ I=>?_
 have st0:=z1.a.rel.strange (ob:=ob)
 exact Bv (q:=⟨c,sc,n,F,y,px,body,v,A,W1,hp1,s1,env,s1.heap.objs.size,Φ⟩) ⟨I,z1,mI s1.heap⟩
  (.mk 0 W1 hp1 (z1.next (.of (t:=s1.toks) st0.2) (z1.a.next (.of (t:=s1.toks) st0.2) st0.1 (Nat.le_refl _))) (.of (t:=s1.toks) st0.2) ⟨.mk ob (Heap.get?_push_size _ I.free) I.first,z1.a.rel.new_live,z1.a.rel.new_cold⟩ h)
  fun f W' s' a L x=>.last (t:=s'.toks) a (L1.trans L) x
end
end
section
noncomputable def p5:NameKind→Bool
 |.free=>true
 |_=>false
theorem AM:∀ k:NameKind,(k==.free)=p5 k:=by intro k;cases k <;>rfl
noncomputable def p6 (cells:List (Str×Addr)):aU→List (Str×Addr)→Option (List (Str×Addr))
 | [],acc=>some acc
 |p::r,acc=>match p5 p.2 with
  |true=>(cells.lookup p.1).bind fun a=>p6 cells r ((p.1,a)::acc)
  |false=>p6 cells r acc
theorem tG {env:Env}(f:Str×NameKind→List (Str×Addr)→Sem (ForInStep (List (Str×Addr))))(hf:∀ p acc,f p acc=if p.2==.free then(do let a ← cellOf env p.1;pure (.yield ((p.1,a)::acc)))else pure (.yield acc)):
  ∀ {names:aU} {acc cl:List (Str×Addr)},p6 env.cells names acc=some cl→forIn names acc f=pure cl
 | [],_,_,h=>by cases h;rfl
 |p::r,acc,cl,h=>by
  unfold p6 at h
  rw[List.forIn_cons,hf,AM]
  cases hk:p5 p.2 with
  |true=>
   rw[hk]at h
   obtain⟨a,e,h⟩:=bS h
   have:cellOf env p.1=pure a:=by unfold cellOf;rw[e]
   rw[if_pos rfl,this]
   exact tG f hf h
  |false=>rw[hk]at h;exact tG f hf h
theorem xH {scope:Scope}{env:Env}{cl:List (Str×Addr)}(h:p6 env.cells scope.names []=some cl):closureFor scope env=pure cl:=by
 simp only[closureFor]
 rw[tG (env:=env) _ (fun p acc=>by cases hk:p.2==NameKind.free <;>simp[hk]) h]
 simp
noncomputable def cW:aU→List Nm
 | []=>[]
 |p::r=>match p5 p.2 with
  |true=>p.1.cps.toList::cW r
  |false=>cW r
noncomputable def eX (cs:List (Nm×Nat)):List Nm→List (Nm×Nat)
 | []=>[]
 |x::r=>match lk cs x with
  |some l=>(x,l)::eX cs r
  |none=>eX cs r
theorem xI {cs:List (Nm×Nat)}{x:Nm}{l:Nat}:∀ {caps:List Nm},lk (eX cs caps) x=some l→x∈caps∧lk cs x=some l
 | [],h=>nomatch h
 |y::r,h=>by
  unfold eX at h
  cases e:lk cs y with
  |some l'=>rw[e]at h;exact(sZ h).elim (fun q=>⟨q.1 ▸ .head _,q.1▸q.2▸e⟩) fun q=>(xI q.2).imp (.tail _) id
  |none=>rw[e]at h;exact(xI h).imp (.tail _) id
theorem p7 {W:Wd}{cs:List (Nm×Nat)}{cells:List (Str×Addr)}(C:CelR W cs cells):∀ {names:aU} (acc:List (Str×Addr)),(cW names).all (fun x=>(lk cs x).isSome)=true→
  (∀ x l,lk cs x=some l→(acc.lookup (st x)).isSome=true→acc.lookup (st x)=cells.lookup (st x))→
  ∃ cl,p6 cells names acc=some cl∧(∀ x,(acc.lookup (st x)).isSome=true∨x∈cW names→(cl.lookup (st x)).isSome=true)∧∀ x l,lk cs x=some l→(cl.lookup (st x)).isSome=true→cl.lookup (st x)=cells.lookup (st x)
 | [],acc,_,h2=>⟨acc,rfl,fun x h=>h.elim id fun m=>absurd m List.not_mem_nil,h2⟩
 |(y,k)::r,acc,h1,h2=>by
  unfold cW at h1 ⊢
  unfold p6
  dsimp only at h1 ⊢
  cases hk:p5 k with
  |false=>rw[hk]at h1;exact p7 C acc h1 h2
  |true=>
   rw[hk]at h1
   have h1:=Bool.and_eq_true_iff.mp h1
   obtain⟨l,hl⟩:=Option.isSome_iff_exists.mp h1.1
   have hc:=(C _ l hl).2
   rw[bA]at hc
   obtain⟨cl,c1,c2,c3⟩:=p7 C ((y,W.ρ l)::acc) h1.2 fun x l' hx hs=>by
    rw[List.lookup_cons]at hs ⊢
    cases q:st x==y with
    |true=>rw[eq_of_beq q,hc]
    |false=>rw[q]at hs;exact h2 x l' hx hs
   refine⟨cl,by rw[hc];exact c1,fun x h=>c2 x ?_,c3⟩
   rcases h with h|h
   ·refine .inl ?_
    rw[List.lookup_cons]
    cases st x==y with
    |true=>rfl
    |false=>exact h
   ·exact(List.mem_cons.mp h).elim (fun e=>.inl (by rw[e,bA,List.lookup_cons,beq_self_eq_true];rfl)) .inr
noncomputable def fQ (sc:aU)(names:aU):aU:=names.map fun(n,k)=>if(k==.free&&true&&sc.lookup n==some .cell)then(n,.cell)else(n,k)
theorem rF {scope:Scope}{env:Env}{sc:aU}(hk:env.scope.kind=.function)(hsc:env.scope.names=sc):(relabel scope env).names=fQ sc scope.names:=by
 unfold relabel fQ Env.kindOf
 rw[hk,hsc]
 rfl
section
variable {c:Cx}
theorem Bw {A:Around}{s:Shared}{target:Expr}{it:Addr}{v:Value}{Φ:Nat→Obj→Prop}{k:Nat}{Q:Unit→Shared→Prop}(hp:y3 c Φ)(h:Got s.heap it (Φ k))(q:Q () s):c.wp A (letOwnedTupleGo target (.ref it) v) Q s:=match h with
 |.mk o ho hΦ=>(hp k o hΦ).elim fun T I=>by
  have go:wpAny c.M A (do
    let(.ref r,.ref a):=((.ref it,v):Value×Value)|return
    let o ← load r
    match o.cls,o.data with
    |.type n,.fields vs=>
     if Bq.contains n&&vs[0]? ==some (rawInt a)then
      rule "for.unpacks-the-owned-tuple"
      updateField r 0 .none
    |_,_=>pure ():Sem Unit) Q no s:=by
   cases v with
   |ref a=>
    refine wpAny_bind (wpAny_load ho ?_)
    rw[I.cls]
    cases hd:o.data with
    |fields vs=>
     simp only[I.own,Bool.false_and,Bool.false_eq_true,if_false]
     exact wpAny_pure q
    |_=>exact wpAny_pure q
   |_=>exact wpAny_pure q
  unfold letOwnedTupleGo
  cases target with
  |Tuple=>exact go
  |List=>exact go
  |_=>exact wpAny_pure q
inductive ComR (c:Cx) (sc:aU) (n:Nat) (F:Fx) (g e:Expr) (L:Nat) (v:V):Nat→Nat→List O→List O→Prop
 |stop {m k:Nat} {hp:List O} {all:List V} (i:e8 v hp=some all) (x:all[k]? =none):ComR c sc n F g e L v (m+1) k hp hp
 |turn {m k:Nat} {hp hp1 hp2 hp3:List O} {all xs:List V} {y w:V} (i:e8 v hp=some all) (x:all[k]? =some y) (h1:RG c sc n F hp g y hp1) (h2:RE c sc n F hp1 e w hp2) (el:hp2[L]?.bind O.lstE=some xs) (z:Nat.ble xs.length lim=true)
   (h3:ComR c sc n F g e L v m (k+1) (hp2.set L (.lst (xs++[w]))) hp3):ComR c sc n F g e L v (m+1) k hp hp3
structure ComOk (scope:Scope) (ri:Expr) (cs:List (Nm×Nat)):Prop where
 kind:scope.kind=.function
 cell:eV scope.names=[]
 caps:(cW scope.names).all (fun x=>(lk cs x).isSome)=true
 names:∀ x∈scope.names,x.2=.local→scope.names.lookup x.1=some .local
 fold:∀ env x,foldedSetIterable ri env x=pure x
structure ComE (c:Cx) (n:Nat) (A:Around) (W:Wd) (hp:List O) (s:Shared) (L:Nat) (W':Wd) (hp':List O) (s':Shared) (dD dC:Addr):Prop where
 a:At c n A W' hp' s'
 l:Lat W hp s W' hp' s'
 ltL:L+1<W'.n
 aC:W'.ρ (L+1)=dC
 aD:W'.ρ L=dD
 nC:s.heap.get? dC=none
variable {sc:aU}{n:Nat}{F:Fx}{A:Around}{W:Wd}{hp hp1 hp2:List O}{s:Shared}{env:Env}{re ri rt:Expr}{scope:Scope}{pos:Pos}{v:V}{m:Nat}
theorem Hj {W7:Wd}{hp4:List O}{s7:Shared}{xs:List V}{w:V}{yu:Value}{L:Nat}{dD:Addr}{Q:Value→Shared→Prop}(z7:AtF c sc n F hp4 A W7 s7 env)(el:hp4[L]?.bind O.lstE=some xs)(zz:Nat.ble xs.length lim=true)(x7:VR c.P W7 w yu)(hd:W7.ρ L=dD)
  (h:∀ u W8 s8,AtF c sc n F (hp4.set L (.lst (xs++[w]))) A W8 s8 env→Lat W7 hp4 s7 W8 (hp4.set L (.lst (xs++[w]))) s8→Q u s8):c.wp A (call (.builtin "list.append") [.ref dD,yu]) Q s7:=by
 subst hd
 match z7.a.rel.lst (fP el)with
 |.mk us kk gd d=>
  refine call_meets PySem.F.slot_list_append ⟨_,gd,rfl⟩ PySem.F.entry_list_append (PySem.F.args_list_append_2 _ _) (list_append _ us.toArray kk yu (by rw[List.size_toArray,R2.len d];exact d9 zz)) ⟨gd,?_⟩
  exact match(i8 (RR:=u8) (b:=()) (r:=()) z7.a (fP el) gd (R2.app d (R2.one x7)) (List.push_toArray ..) trivial:Post c u8 W7 _ s7 () _ () {s7 with heap:=s7.heap.update (W7.ρ L) (Obj.mapSeq fun x=>x.push yu),toks:=s7.toks})with
   |.mk W8 R8 L8 _=>h _ W8 _ ⟨z7.a.next L8 R8 (Nat.le_refl _),z7.f.mono L8.le,z7.sc⟩ L8
structure CQ where
 c:Cx
 sc:aU
 n:Nat
 F:Fx
 rt:Expr
 re:Expr
 L:Nat
 v:V
 hp2:List O
 A:Around
 W:Wd
 hp:List O
 s:Shared
 W1:Wd
 W4:Wd
 cE:Env
 it:Addr
 dD:Addr
 Φ:Nat→Obj→Prop
inductive CoI (q:CQ) (m:Nat) (s':Shared):Prop
 |mk (k:Nat) (W':Wd) (hp':List O) (z:AtF q.c q.sc q.n q.F hp' q.A W' s' q.cE) (l:Lat q.W q.hp q.s W' hp' s') (le:q.W4.le W') (aw:Away W' hp' s'.heap q.it (q.Φ k)) (h:ComR q.c q.sc q.n q.F q.rt q.re q.L q.v m k hp' q.hp2):CoI q m s'
structure CoB (q:CQ) (ob:Obj):Prop where
 I:ItOk q.c q.it ob q.Φ q.v q.W1
 le:q.W1.le q.W4
 nb:q.s.heap.get? q.it=none
 lD:∀ {W'},q.W4.le W'→W'.ρ q.L=q.dD
theorem Bx {q:CQ}{ob:Obj}(B:CoB q ob){m:Nat}{s':Shared}(h:CoI q m s'){Q:Fin→Shared→Prop}(hstop:∀ W' s',At q.c q.n q.A W' q.hp2 s'→Lat q.W q.hp q.s W' q.hp2 s'→q.W4.le W'→Q (.done .next) s')
  (hturn:∀ m' s',m'<m→CoI q m' s'→Q (.again (.compLoop (.ListComp q.re [⟨q.rt,ri,[],0⟩] scope pos) 0 (.ref q.it) (.ref q.dD) q.cE)) s'):q.c.wp q.A (compTurn (.ListComp q.re [⟨q.rt,ri,[],0⟩] scope pos) 0 (.ref q.it) (.ref q.dD) q.cE) Q s':=by
 obtain⟨k,W',hp',Z',L',le,aw,h⟩:=h
 rw[compTurn_list]
 refine wpAny_bind (wpAny_standAt (wpAny_bind (wpAny_with_toks (n:=s'.toks) (Nat.le_refl _) (wpAny_mono (E:=no) ?_ (fun _ _ x=>x) fun _ _ f=>f.elim))))
 have draw:=fun all e=>B.I.draws W' hp' s' k all (B.le.trans le) Z'.a.rel aw.ob e
 cases h with
 |stop i x=>
  refine(draw _ i).stop q.A _ Z'.a.room.hd x ?_
  intro h' t' kp (tk:s'.toks≤t')
  have z:=vN (Ψ:=fun _=>True) Z' L' B.nb aw kp tk
  exact wpAny_pure (hstop W' {s' with heap:=h',toks:=t'} z.1.a z.2.1 le)
 |turn i x g1 g2 el zz g3=>
  refine(draw _ i).item _ q.A _ x ?_
  intro h' t' u' hu g kp (tk:s'.toks≤t')
  have z:=vN (Ψ:=q.Φ (k+1)) Z' L' B.nb aw kp tk
  refine wpAny_bind (Bw B.I.plain g (wpAny_bind (go z.1.a (g1 q.A W' _ q.cE u' z.1 hu) fun W5 _ s6 a6 L6 _=>?_)))
  dsimp only
  rw[List.forIn_nil]
  refine wpAny_bind (wpAny_pure ?_)
  rw[if_pos rfl]
  refine wpAny_bind (wpAny_bind (g2.go (z.1.next L6 a6) fun W7 yu s7 z7 L7 x7=>?_))
  exact wpAny_bind (Hj z7 el zz x7 (B.lD ((le.trans L6.le).trans L7.le)) fun _ W8 s8 z8 L8=>wpAny_pure (wpAny_pure (hturn _ s8 (Nat.lt_succ_self _) (.mk (k+1) W8 _ z8 (((z.2.1.trans L6).trans L7).trans L8) ((le.trans L6.le).trans (L7.le.trans L8.le)) ((((z.2.2 g).ext L6.e).ext L7.e).ext L8.e) g3))))
theorem By {q:CQ}{ob:Obj}(B:CoB q ob){m:Nat}{s':Shared}(h:CoI q m s'){R:Result→Shared→Prop}(hR:∀ W' s',At q.c q.n q.A W' q.hp2 s'→Lat q.W q.hp q.s W' q.hp2 s'→q.W4.le W'→R (.ok .next) s'):
  codeAny q.c.M q.A (.compLoop (.ListComp q.re [⟨q.rt,ri,[],0⟩] scope pos) 0 (.ref q.it) (.ref q.dD) q.cE) R s':=by
 refine codeAny_loop rfl (CoI q) ?_ m h
 intro m s' h
 show wpAny _ q.A ((compTurn (.ListComp q.re [⟨q.rt,ri,[],0⟩] scope pos) 0 (.ref q.it) (.ref q.dD) q.cE).onRaise (fun x=>do noteFrame x q.cE;theTreesLotGoes x)) _ _ s'
 exact wpAny_noted (wpAny_mono (E:=no) (Bx B h hR fun m' s' lt h=>⟨rfl,m',lt,h⟩) (fun _ _ x=>x) fun _ _ f=>f.elim)
theorem y6 {use:Option (Value→Sem Unit)}{QQ:Value→Shared→Prop}(ok:ComOk scope ri F.cs)(z:AtF c sc n F hp A W s env)(h1:RE c sc n F hp ri v hp1)(hr:vJ v=true)(hi:(e8 v hp1).isSome=true)
  (h:ComR c (fQ sc scope.names) n ⟨hp1.length+1,eX F.cs (cW scope.names)⟩ rt re hp1.length v m 0 (hp1++[.lst [],.fr []]) hp2)
  (iJ:∀ W' s' dD dC,ComE c n A W hp s hp1.length W' hp2 s' dD dC→compPost c.M A no use QQ (.ref dD) dC (.ok .next) s'):
  c.wp A (comprehension (.ListComp re [⟨rt,ri,[],0⟩] scope pos) scope env (firstIterPos [⟨rt,ri,[],0⟩] pos) (newList []) false (eval ri env) use) QQ s:=by
 obtain⟨cl,c1,c2,c3⟩:=p7 (W:=W) z.f.cel (names:=scope.names) [] ok.caps fun x l _ q=>nomatch q
 refine wpAny_comprehension_free (use:=use) (g:=⟨rt,ri,[],0⟩) (gs:=[]) rfl (ok.fold env) (xH c1) ok.kind ok.names (h1.go z fun W1 u s1 z1 L1 x1=>?_)
 refine(Option.isSome_iff_exists.mp hi).elim fun all e=>Br z1.a.rel x1 e hr fun ob Φ I=>?_
 have nn:=mI s1.heap
 have st0:=z1.a.rel.strange (ob:=ob)
 have nb:=nV L1.e nn
 refine wpAny_newObj_type ?_ (Nat.zero_le _)
 have z2:=st0.1.alloc (o:=.lst []) (ob:={cls:=.type "list",data:=.seq ([]:List Value).toArray}) (.mk [] 0 rfl)
 have z3:=z2.1.alloc (o:=.fr []) (ob:={cls:=.type "dict",data:=.dict #[]}) (.mk "dict" [] 0 rfl)
 rw[List.append_assoc]at z3
 have z3:Rel c.P _ (hp1++[.lst [],.fr []]) _∧Ext _ _ _ _ (hp1++[.lst [],.fr []]) _:=z3
 have E3:=(st0.2.trans z2.2).trans z3.2
 have ltL:hp1.length < (W1.push (s1.heap.push ob).objs.size).n:=z1.a.rel.len▸Nat.lt_succ_self _
 have Lr:(W1.push (s1.heap.push ob).objs.size).ρ hp1.length=(s1.heap.push ob).objs.size:=st0.1.push_at _
 generalize hD:(s1.heap.push ob).objs.size=dD at *
 generalize hh3:(s1.heap.push ob).push {cls:=.type "list",data:=.seq ([]:List Value).toArray}=h3 at *
 generalize hC:h3.objs.size=dC at *
 have Lc:((W1.push dD).push dC).ρ (hp1.length+1)=dC:=by
  have:=z2.1.push_at dC
  rwa [List.length_append]at this
 have Ll:((W1.push dD).push dC).ρ hp1.length=dD:=((Wd.le_push _ _).ρ _ ltL).trans Lr
 have ltC:hp1.length+1 < ((W1.push dD).push dC).n:=Nat.succ_lt_succ ltL
 generalize (W1.push dD).push dC=W3 at *
 simp only[newFunctionEnv,Option.isSome_some,if_true]
 refine wpAny_bind (wpAny_alloc ?_)
 have CC:CelR W3 (eX F.cs (cW scope.names)) cl:=fun x l q=>have q:=xI q;have q2:=z.f.cel x l q.2
  ⟨Nat.lt_of_lt_of_le q2.1 (L1.le.trans E3.le).n,(c3 x l q.2 (c2 x (.inr q.1))).trans (q2.2.trans (congrArg some ((L1.le.trans E3.le).ρ _ q2.1).symm))⟩
 refine wpAny_bind (wpAny_with_toks (n:=s1.toks) (Nat.le_refl _) (wpAny_mono (E:=no) (mA (c:=c) (A:=A) _ (fun name kind cells=>by cases hkc:kind==NameKind.cell <;>simp[hkc]) scope.names cl (eX F.cs (cW scope.names)) (hp1++[.lst [],.fr []]) W3 _ z3.1 CC
  fun W4 ca s5 R4 L4 C4 tk=>?_) (fun _ _ x=>x) fun _ _ f=>f.elim))
 rw[ok.cell]at R4 L4 C4
 have R4:Rel c.P W4 (hp1++[.lst [],.fr []]) s5.heap:=R4
 have L4:Lat W3 (hp1++[.lst [],.fr []]) _ W4 (hp1++[.lst [],.fr []]) s5:=L4
 have C4:CelR W4 (eX F.cs (cW scope.names)) ca:=C4
 refine wpAny_pure ?_
 have F4:FrR W4 ⟨hp1.length+1,eX F.cs (cW scope.names)⟩ {scope:=relabel scope env,locals:=h3.objs.size,globals:=env.globals,cells:=ca,qual:=env.qual,func:=none,code:=env.code,frame:=env.frame,builtins:=env.builtins}:=
  ⟨Nat.lt_of_lt_of_le ltC L4.le.n,hC.trans (Lc.symm.trans (L4.le.ρ _ ltC).symm),C4,ok.kind,z.f.glob,z.f.blt⟩
 generalize hcE:({scope:=relabel scope env,locals:=h3.objs.size,globals:=env.globals,cells:=ca,qual:=env.qual,func:=none,code:=env.code,frame:=env.frame,builtins:=env.builtins}:Env)=cE at F4
 have N4:cE.scope.names=fQ sc scope.names:=by rw[← hcE];exact rF z.f.kind z.sc
 have L5:Lat W hp s W4 (hp1++[.lst [],.fr []]) s5:=(L1.trans (.of (t:=s1.toks) E3)).trans L4
 have L15:Lat W1 hp1 s1 W4 (hp1++[.lst [],.fr []]) s5:=(Lat.of (t:=s1.toks) E3).trans L4
 have Z5:AtF c (fQ sc scope.names) n ⟨hp1.length+1,eX F.cs (cW scope.names)⟩ (hp1++[.lst [],.fr []]) A W4 s5 cE:=⟨z1.a.next L15 R4 tk,F4,N4⟩
 have aw5:Away W4 (hp1++[.lst [],.fr []]) s5.heap s1.heap.objs.size (Φ 0):=
  Away.ext (h:=s1.heap.push ob) ⟨.mk ob (Heap.get?_push_size _ I.free) I.first,z1.a.rel.new_live,z1.a.rel.new_cold⟩ ((z2.2.trans z3.2).trans L4.e)
 have nC:s.heap.get? dC=none:=hC▸nV ((L1.e.trans st0.2).trans z2.2) (mI h3)
 have lD:∀ {W':Wd},W4.le W'→W'.ρ hp1.length=dD:=fun le=>(le.ρ _ (Nat.lt_of_lt_of_le (Nat.lt_of_succ_lt ltC) L4.le.n)).trans ((L4.le.ρ _ (Nat.lt_of_succ_lt ltC)).trans Ll)
 have loop:codeAny c.M A (.compLoop (.ListComp re [⟨rt,ri,[],0⟩] scope pos) 0 (.ref s1.heap.objs.size) (.ref dD) cE) (compPost c.M A no use QQ (.ref dD) dC) s5:=
  By (q:=⟨c,fQ sc scope.names,n,⟨hp1.length+1,eX F.cs (cW scope.names)⟩,rt,re,hp1.length,v,hp2,A,W,hp,s,W1,W4,cE,s1.heap.objs.size,dD,Φ⟩) ⟨I,L15.le,nb,lD⟩ (.mk 0 W4 _ Z5 L5 (.refl _) aw5 h)
   fun W' s' a l le=>iJ W' s' dD dC ⟨a,l,Nat.lt_of_lt_of_le ltC (L4.le.trans le).n,(le.ρ _ (Nat.lt_of_lt_of_le ltC L4.le.n)).trans ((L4.le.ρ _ ltC).trans Lc),lD le,nC⟩
 show codeAny c.M A (.compStart (.ListComp re [⟨rt,ri,[],0⟩] scope pos) 0 (.ref s1.heap.objs.size) (.ref dD) cE) (compPost c.M A no use QQ (.ref dD) h3.objs.size) s5
 rw[hC]
 exact match aw5.ob with
  |.mk o ho hΦ=>(I.plain 0 o hΦ).elim fun T P=>codeAny_compStart_list loop (wpAny_mono (P.self A s5 _ _ ⟨_,ho,P.cls⟩ loop) (fun _ _ x=>x) fun _ _ f=>f.elim)
theorem Bz {L:Nat}{W':Wd}{hp':List O}{s':Shared}{dC:Addr}{es:List (Nm×V)}{h'':Heap}(z:At c n A W' hp' s')(l:Lat W hp s W' hp' s')(lv:Lv hp' L (.fr es))(aC:W'.ρ L=dC)(nC:s.heap.get? dC=none)(sb:Heap.SameBut dC s'.heap h''):
  Rel c.P W' (hp'.set L .gone) h''∧Lat W hp s W' (hp'.set L .gone) {s' with heap:=h''}:=
 have q:=z.rel.forget L
 have nl:¬ Live W' (hp'.set L .gone) dC:=fun|.mk k o v e=>match v.set with
  |.inl ⟨_,e'⟩=>nomatch (e'▸v.v:O.live .gone=true)
  |.inr ⟨ne,y⟩=>ne (z.rel.inj _ _ _ _ y lv (e.trans aC.symm))
 ⟨q.1.poke nl (aC▸z.rel.cold _ _ lv) (fE sb),⟨(l.e.trans q.2).poke nC (fE sb),l.g,l.o⟩⟩
theorem Jp {L:Nat}{W':Wd}{hp':List O}{h':Heap}{es:List (Nm×V)}(R:Rel c.P W' hp' h')(lv:Lv hp' L (.fr es)):∃ m,h'.Ns (W'.ρ L) m:=match R.fr lv with
 |.mk _ en k g E=>⟨fun y=>nsFind en.toArray y,_,en.toArray,k,g,rfl,E.skeys,fun _=>rfl⟩
theorem mJ {es:List (Nm×V)}(ok:ComOk scope ri F.cs)(h1:RE c sc n F hp ri v hp1)(hr:vJ v=true)(hi:(e8 v hp1).isSome=true)
  (h:ComR c (fQ sc scope.names) n ⟨hp1.length+1,eX F.cs (cW scope.names)⟩ rt re hp1.length v m 0 (hp1++[.lst [],.fr []]) hp2)(e:hp2[hp1.length+1]?.bind O.frE=some es):
  RE c sc n F hp (.ListComp re [⟨rt,ri,[],0⟩] scope pos) (.ref hp1.length) (hp2.set (hp1.length+1) .gone):=fun A W s env z=>by
 show wpAny _ _ (eval _ env) _ _ _
 rw[eval_ListComp]
 exact y6 ok z h1 hr hi h fun W' s' dD dC E=>(Jp E.a.rel (rM e)).elim fun m hm=>⟨m,E.aC▸hm,fun h'' sb=>have q:=Bz E.a E.l (rM e) E.aC E.nC sb
  .mk W' q.1 q.2 ⟨Nat.lt_of_succ_lt E.ltL,congrArg Value.ref E.aD.symm⟩⟩
noncomputable def tH (sc:aU)(y:Str)(px:Pos):Expr→Bool
 |.ListComp _ _ scope p=>sc.lookup y==some .local&&px.line==p.line&& !(scope.names.any fun(n,k)=>n==y&&(k==.local||k==.cell))
 |_=>false
theorem xJ {y:Str}{px:Pos}{r:Expr}{l:Nat}(hf:env.scope.kind=.function)(hs:env.scope.names=sc)(h:tH sc y px r=true):swapsWith r (some (.Name y px)) l env=pure true:=by
 cases r with
 |ListComp a b scope p=>
  have h:=Bool.and_eq_true_iff.mp h
  have h1:=Bool.and_eq_true_iff.mp h.1
  have e1:(env.blockKind==.function)=true:=by unfold Env.blockKind;rw[hf];rfl
  have e2:(env.kindOf y==some .local)=true:=by unfold Env.kindOf;rw[hs];exact h1.1
  unfold swapsWith
  dsimp only
  simp only[Expr.pos]at *
  rw[e1,e2,h1.2,h.2]
  rfl
 |_=>cases h
theorem nI {es:List (Nm×V)}{y:Str}{px spos:Pos}{hp3:List O}(ok:ComOk scope ri F.cs)(h1:RE c sc n F hp ri v hp1)(hr:vJ v=true)(hi:(e8 v hp1).isSome=true)
  (h:ComR c (fQ sc scope.names) n ⟨hp1.length+1,eX F.cs (cW scope.names)⟩ rt re hp1.length v m 0 (hp1++[.lst [],.fr []]) hp2)(hw:tH sc y px (.ListComp re [⟨rt,ri,[],0⟩] scope pos)=true)
  (hk:sc.lookup y=some .local)(t:lO F y.cps.toList (.ref hp1.length) hp2=some hp3)(e:hp3[hp1.length+1]?.bind O.frE=some es):
  RS c sc n F hp (.Assign [.Name y px] (.ListComp re [⟨rt,ri,[],0⟩] scope pos) spos) .next (hp3.set (hp1.length+1) .gone):=fun A W s env z=>by
 show wpAny _ _ (exec _ env) _ _ _
 rw[exec_Assign_Name_used _ _ _ _ (xJ z.f.kind z.sc hw)]
 refine wpAny_bind (wpAny_standAt (wpAny_bind ?_))
 show wpAny _ A (do let _ ← comprehension (.ListComp re [⟨rt,ri,[],0⟩] scope pos) scope env _ (newList []) false (eval ri env) (some (assign (.Name y px) env))) _ _ s
 refine wpAny_bind (wpAny_mono (y6 (QQ:=fun _ s'=>Post c c.FT W hp s .next (hp3.set (hp1.length+1) .gone) Flow.next s') ok z h1 hr hi h fun W' s' dD dC E=>?_) (fun _ s' p=>wpAny_pure (wpAny_pure p)) fun _ _ f=>f)
 show wpAny _ A (assign (.Name y px) env (.ref dD)) _ _ _
 refine go E.a (cM (p:=px) hk t A W' s' env (.ref dD) ⟨E.a,z.f.mono E.l.le,z.sc⟩ ⟨Nat.lt_of_succ_lt E.ltL,congrArg Value.ref E.aD.symm⟩) fun W2 _ s2 a2 L2 _=>?_
 have aC:=(L2.le.ρ _ E.ltL).trans E.aC
 exact(Jp a2.rel (rM e)).elim fun m hm=>⟨m,aC▸hm,fun h'' sb=>have q:=Bz a2 (E.l.trans L2) (rM e) aC E.nC sb
  .mk W2 q.1 q.2 rfl⟩
end
end
section
set_option genCtorIdx true in
inductive Pt where|o|a|b
noncomputable def Pt.nx:Pt→Pt
 |.a=>.b
 |_=>.o
structure GenT where
 t1:Expr
 t2:Expr
 e2:Expr
 t3:Expr
 e3:Expr
noncomputable def GenT.t (T:GenT):Pt→Expr
 |.a=>T.t2
 |_=>T.t3
noncomputable def GenT.e (T:GenT):Pt→Expr
 |.a=>T.e2
 |_=>T.e3
inductive Pull (c:Cx) (sc:aU) (n:Nat) (F:Fx) (T:GenT) (base:Nat) (Y:Pt→V→List O→Prop) (hpE:List O):Nat→Pt→List O→Prop
 |stop {k:Nat} {hp hp0 hp1:List O} (gc:Gc base hp hp0) (h:RB c sc n F hp0 T.t1 false hp1) (gc2:Gc base hp1 hpE):Pull c sc n F T base Y hpE (k+1) .o hp
 |go {k:Nat} {hp hp0 hp1 hp2:List O} (gc:Gc base hp hp0) (h:RB c sc n F hp0 T.t1 true hp1) (gc2:Gc base hp1 hp2) (r:Pull c sc n F T base Y hpE k .a hp2):Pull c sc n F T base Y hpE (k+1) .o hp
 |pass {k:Nat} {p:Pt} {hp hp1:List O} (i:p≠.o) (h:RB c sc n F hp (T.t p) false hp1) (r:Pull c sc n F T base Y hpE k p.nx hp1):Pull c sc n F T base Y hpE (k+1) p hp
 |yld {k:Nat} {p:Pt} {hp hp1 hp2:List O} {x:V} (i:p≠.o) (h:RB c sc n F hp (T.t p) true hp1) (e:RE c sc n F hp1 (T.e p) x hp2) (y:Y p x hp2):Pull c sc n F T base Y hpE (k+1) p hp
inductive Cons (c:Cx) (sc:aU) (n:Nat) (F:Fx) (g:Expr) (body:List Stmt) (base:Nat) (x:V) (hp:List O) (P:List O→Prop):Prop
 |mk {fl:Fl} {hp1 hp2 hp3:List O} (h1:RG c sc n F hp g x hp1) (h2:RX c sc n F hp1 body fl hp2) (on:fl.on=true) (gc:Gc base hp2 hp3) (r:P hp3):Cons c sc n F g body base x hp P
section
variable {c:Cx}{gs:aU}{ng:Nat}{gF:Fx}{T:GenT}{base:Nat}(Cn:V→List O→(List O→Prop)→Prop)(hpE:List O)
noncomputable def Nx (c:Cx)(gs:aU)(ng:Nat)(gF:Fx)(T:GenT)(base:Nat):Nat→Pt→List O→Prop
 |0,p,hp=>∃ k,Pull c gs ng gF T base (fun _ _ _=>False) hpE k p hp
 |m+1,p,hp=>∃ k,Pull c gs ng gF T base (fun p x hp1=>Cn x hp1 (Nx c gs ng gF T base m p)) hpE k p hp
noncomputable def YM (c:Cx)(gs:aU)(ng:Nat)(gF:Fx)(T:GenT)(base:Nat):Nat→Pt→V→List O→Prop
 |0,_,_,_=>False
 |m+1,p,x,hp1=>Cn x hp1 (Nx Cn hpE c gs ng gF T base m p)
theorem Jq (m:Nat)(p:Pt)(hp:List O):Nx Cn hpE c gs ng gF T base m p hp=∃ k,Pull c gs ng gF T base (YM Cn hpE c gs ng gF T base m) hpE k p hp:=by
 cases m <;>rfl
end
structure FrOk (d u:Nat) (fs:List Frame):Prop where
 sp:splitAtGen fs=none
 gd:fs.any Frame.guarded=false
 mks:(marksOver fs (none,none)).1=none
 dp:frameCount (fs.map Frame.where_)≤d
 un:PySem.unitsOf (fs.map Frame.where_)≤u
theorem FrOk.nil:FrOk 0 0 []:=⟨rfl,rfl,rfl,Nat.le_refl _,Nat.le_refl _⟩
structure Lite (c:Code):Prop where
 w:c.weight≤2
 u:c.cUnits≤6
theorem FrOk.ret {d u:Nat}{fs:List Frame}(h:FrOk d u fs){k l c p kp}(hc:Lite c):FrOk (d+2) (u+6) (.ret k none false l c p kp::fs):=
 ⟨by show(splitAtGen fs).map _=none;rw[h.sp];rfl,h.gd,h.mks,
  by show frameCount ((c,p)::fs.map Frame.where_)≤_;rw[frameCount_cons];have:=h.dp;have:=hc.w;omega,
  by show PySem.unitsOf ((c,p)::fs.map Frame.where_)≤_;rw[unitsOf_cons];have:=h.un;have:=hc.u;omega⟩
theorem FrOk.room {n:Nat}{fs:List Frame}{A:Around}{c:Code}(h:FrOk 4 12 fs)(ro:Room (n+3) A)(hc:Lite c):Room n (A.over c fs):=
 ⟨by show(marksOver fs (A.handled,A.handled)).1=none;rw[ro.hd];exact h.mks,
  by show A.depth+frameCount (fs.map Frame.where_)+c.weight+10*n≤900;have:=h.dp;have:=ro.dp;have:=hc.w;omega,
  by show A.units+PySem.unitsOf (fs.map Frame.where_)+c.cUnits+20*n≤9000;have:=h.un;have:=ro.un;have:=hc.u;omega⟩
theorem FrOk.up {d u d' u':Nat}{fs:List Frame}(h:FrOk d u fs)(a:d≤d')(b:u≤u'):FrOk d' u' fs:=⟨h.sp,h.gd,h.mks,Nat.le_trans h.dp a,Nat.le_trans h.un b⟩
theorem oV {t:Expr}{b o:List Stmt}{env:Env}:Lite (Code.whileLoop t b o env):=⟨Nat.le_of_ble_eq_true rfl,Nat.le_of_ble_eq_true rfl⟩
theorem CA {b:List Stmt}{env:Env}:Lite (Code.func b env):=⟨Nat.le_of_ble_eq_true rfl,Nat.le_of_ble_eq_true rfl⟩
structure GenX where
 s1:Stmt
 t:GenT
 p1:Pos
 p2:Pos
 p3:Pos
 pe:Pos
 py:Pos
 qe:Pos
 qy:Pos
noncomputable def GenX.y (G:GenX):Pt→List Stmt
 |.a=>[.Expr (.Yield (some G.t.e2) G.qy) G.qe]
 |_=>[.Expr (.Yield (some G.t.e3) G.py) G.pe]
noncomputable def GenX.w3 (G:GenX):List Stmt:=[.While G.t.t3 (G.y .b) [] G.p3]
noncomputable def GenX.w (G:GenX):List Stmt:=.While G.t.t2 (G.y .a) [] G.p2::G.w3
noncomputable def GenX.b (G:GenX):List Stmt:=[G.s1,.While G.t.t1 G.w [] G.p1]
structure GQ where
 c:Cx
 gs:aU
 ng:Nat
 gf:Nat
 X:GenX
 Cn:V→List O→(List O→Prop)→Prop
 hpE:List O
 Wi:Wd
 hpi:List O
 si:Shared
 env:Env
noncomputable def GQ.F (q:GQ):Fx:=⟨q.gf,[]⟩
structure GI (q:GQ) (W:Wd) (hp:List O) (s₀ s:Shared):Prop where
 r:Rel q.c.P W hp s.heap
 t:0<s.toks
 e:Ext q.Wi q.hpi q.si.heap W hp s.heap
 g:GenS s₀.gens s.gens
 o:s.os=s₀.os
structure GB (q:GQ):Prop where
 b:Rel q.c.P q.Wi q.hpi q.si.heap
 k:∀ a o,q.c.K.lookup a=some o→q.Wi.fz a=some o
 f0:FrR q.Wi q.F q.env
 hn:q.env.scope.names=q.gs
 hco:q.env.scope.isCoroutine=false
 hia:interactive q.env=false
noncomputable def GQ.PL (q:GQ)(m k:Nat)(p:Pt)(hp:List O):Prop:=Pull q.c q.gs q.ng q.F q.X.t q.hpi.length (YM q.Cn q.hpE q.c q.gs q.ng q.F q.X.t q.hpi.length m) q.hpE k p hp
noncomputable def GQ.NX (q:GQ)(m:Nat)(p:Pt)(hp:List O):Prop:=Nx q.Cn q.hpE q.c q.gs q.ng q.F q.X.t q.hpi.length m p hp
theorem GQ.nx {q:GQ}{m:Nat}{p:Pt}{hp:List O}(h:q.NX m p hp):∃ k,q.PL m k p hp:=(Jq q.Cn q.hpE m p hp).mp h
section
variable {q:GQ}
theorem GI.at {W:Wd}{hp:List O}{s₀ s:Shared}(b:GB q)(g:GI q W hp s₀ s){n:Nat}{A:Around}(ro:Room n A):AtF q.c q.gs n q.F hp A W s q.env:=⟨⟨ro,g.r,fun a o e=>g.e.le.fz a o (b.k a o e),g.t⟩,b.f0.mono g.e.le,b.hn⟩
theorem GI.step {W W':Wd}{hp hp':List O}{s₀ s s':Shared}{n:Nat}{A:Around}(g:GI q W hp s₀ s)(z:At q.c n A W' hp' s')(L:Lat W hp s W' hp' s'):GI q W' hp' s₀ s':=
 ⟨z.rel,z.tk,g.e.trans L.e,g.g.trans L.g,L.o.trans g.o⟩
theorem GI.drop {W:Wd}{hp hp':List O}{s₀ s:Shared}(b:GB q)(g:GI q W hp s₀ s)(x:Gc q.hpi.length hp hp'):∃ W',GI q W' hp' s₀ s:=by
 cases x with
 |id=>exact⟨W,g⟩
 |fold e=>exact match pO (u:=.none) (v:=.dat .non) (b.b.len.symm▸e:g5 q.Wi.n _ _ (.dat .non) hp=_) (.mk W g.r g.e rfl fun _ n z=>⟨n,z⟩)with
  |.mk W3 R E _ C=>⟨W3,R,g.t,E,g.g,g.o⟩
inductive GYi (q:GQ) (m:Nat) (s₀:Shared) (v:Value) (s₁:Shared) (kap:Resume→Shared→Prop):Prop
 |mk (W1:Wd) (hp1:List O) (x:V) (p:Pt) (gi:GI q W1 hp1 s₀ s₁) (xv:VR q.c.P W1 x v) (cn:q.Cn x hp1 (q.NX m p))
   (k:∀ s'' W'' hp'',GI q W'' hp'' s'' s''→q.NX m p hp''→kap (.send .none) s'')
noncomputable def GY (q:GQ):Protocol:=fun m s₀ v s₁ kap=>GYi q m s₀ v s₁ kap
noncomputable def GR (q:GQ):GenEnd:=fun _ s₀ r s₁=>r=.ok (.ret .none)∧∃ W1,GI q W1 q.hpE s₀ s₁
noncomputable abbrev GQ.Sg (q:GQ)(A:Around)(m:Nat)(s₀:Shared)(cd:Code)(t:Sem Fin)(fs:List Frame)(s:Shared):Prop:=Seg q.c.M A (GR q) (GY q) m s₀ cd t fs s
noncomputable def GQ.yl (q:GQ)(p:Pt):Code:=.whileLoop (q.X.t.t p) (q.X.y p) [] q.env
noncomputable def GQ.ol (q:GQ):Code:=.whileLoop q.X.t.t1 q.X.w [] q.env
theorem CB {p:Prop}{a b:Prop} [Decidable p] (h:¬ p)(x:b):if p then a else b:=by rw[if_neg h];exact x
theorem CD {p:Prop}{a b:Prop} [Decidable p] (h:p)(x:a):if p then a else b:=by rw[if_pos h];exact x
variable {A:Around}
noncomputable def LS (q:GQ)(A:Around)(p:Pt)(m:Nat):Prop:=∀ (k:Nat) (fs:List Frame),FrOk 4 12 fs→
 (∀ m' k',(m'<m∨(m'=m∧k'<k))→∀ W hp s₀ s,GI q W hp s₀ s→q.PL m' k' p.nx hp→q.Sg A m' s₀ (q.yl p) (leafOf (.ok .next)) fs s)→
 ∀ W hp s₀ s,GI q W hp s₀ s→q.PL m k p hp→q.Sg A m s₀ (q.yl p) (q.c.M.den (q.yl p)) fs s
theorem CF (b:GB q){p:Pt}{m:Nat}{fs:List Frame}{n:Nat}{s₀ s:Shared}{K:Flow→Sem Fin}{H:Value→Sem Fin}{lv:List Value→List Value}{x:V}{W:Wd}{hp hp2:List O}(fo:FrOk 4 12 fs)(z:AtF q.c q.gs n q.F hp (A.over (q.yl p) fs) W s q.env)(g:GI q W hp s₀ s)
  (e:RE q.c q.gs n q.F hp (q.X.t.e p) x hp2)(hp0:p≠.o)(y:q.Cn x hp2 (q.NX m p))(h:∀ s'' W'' hp'',GI q W'' hp'' s'' s''→q.NX m p hp''→q.Sg A m s'' (q.yl p) (K .next) fs s''):
  q.Sg A (m+1) s₀ (q.yl p) ((execs (q.X.y p) q.env).wrap K H id lv) fs s:=by
 have go:∀ ex py pe,q.X.y p=[.Expr (.Yield (some ex) py) pe]→q.X.t.e p=ex→q.Sg A (m+1) s₀ (q.yl p) ((execs (q.X.y p) q.env).wrap K H id lv) fs s:=fun ex py pe h1 h2=>by
  rw[h1]
  refine seg_execs_cons (seg_Expr_Yield fo.sp rfl fo.gd (wpAny_mono ((h2▸e).go z fun W2 v s2 z2 L2 x2=>fun kap hk=>?_) (fun _ _ x=>x) fun _ _ f=>f.elim) b.hco b.hia)
  exact .mk W2 _ _ p (g.step z2.a L2) x2 y fun s'' W'' hp'' g'' nx=>hk .none s'' (seg_execs_nil (h s'' W'' hp'' g'' nx))
 cases p with
 |o=>exact absurd rfl hp0
 |a=>exact go _ _ _ rfl rfl
 |b=>exact go _ _ _ rfl rfl
theorem vP (b:GB q)(ro:Room (q.ng+3) A){p:Pt}(hp0:p≠.o)(m:Nat)(ih:∀ m',m=m'+1→LS q A p m'):LS q A p m:=fun k fs fo hl W hp s₀ s g h=>by
 have rm:Room q.ng (A.over (q.yl p) fs):=fo.room ro oV
 have z:=g.at b rm
 cases h with
 |stop _ _ _=>exact absurd rfl hp0
 |go _ _ _ _=>exact absurd rfl hp0
 |pass _ h r=>exact seg_whileLoop (wpAny_mono (h.go z (Z:=fun b s'=>if b=true then _ else _) fun W1 b s1 z1 L1 x1=>CB (by rw[show b=false from x1];exact Bool.false_ne_true) (seg_execs_nil (hl m _ (.inr ⟨rfl,Nat.lt_succ_self _⟩) W1 _ s₀ s1 (g.step z1.a L1) r))) (fun _ _ x=>x) fun _ _ f=>f.elim)
 |yld _ h e y=>cases m with
  |zero=>exact(y:False).elim
  |succ m=>exact seg_whileLoop (wpAny_mono (h.go z (Z:=fun b s'=>if b=true then _ else _) fun W1 t s1 z1 L1 x1=>CD x1 (CF b fo z1 (g.step z1.a L1) e hp0 y fun s'' W'' hp'' g'' nx=>
    seg_again rfl ((GQ.nx nx).elim fun k' nx=>ih m rfl k' fs fo (fun m' k2 hm=>hl m' k2 (.inl (hm.elim Nat.lt_succ_of_lt fun x=>x.1▸Nat.lt_succ_self _))) W'' hp'' s'' s'' g'' nx))) (fun _ _ x=>x) fun _ _ f=>f.elim)
theorem rU (b:GB q)(ro:Room (q.ng+3) A){p:Pt}(hp0:p≠.o)(m:Nat):LS q A p m:=by
 induction m with
 |zero=>exact vP b ro hp0 0 nofun
 |succ m ih=>exact vP b ro hp0 (m+1) fun m' e=>Nat.succ.inj e▸ih
noncomputable def Hk (q:GQ)(A:Around)(fs:List Frame)(m k:Nat):Prop:=∀ W hp s₀ s,GI q W hp s₀ s→q.PL m k .o hp→q.Sg A m s₀ q.ol (q.c.M.den q.ol) fs s
theorem CG (b:GB q)(ro:Room (q.ng+3) A){fs:List Frame}(fo:FrOk 2 6 fs){m k:Nat}(ih:∀ m' k',(m'<m∨(m'=m∧k'<k+1))→Hk q A fs m' k'){W:Wd}{hp:List O}{s₀ s:Shared}(g:GI q W hp s₀ s)(r:q.PL m k .a hp){K:Flow→Sem Fin}{H:Value→Sem Fin}{lv:List Value→List Value}(hK:K .next=.pure (.again q.ol)):
  q.Sg A m s₀ q.ol ((execs q.X.w q.env).wrap K H id lv) fs s:=by
 refine seg_execs_cons (seg_While fun p=>?_)
 refine rU (p:=.a) b ro nofun m _ _ (fo.ret oV) (fun m' k' hm W' hp' s₀' s' g' q'=>?_) W _ s₀ s g r
 refine seg_leaf (.ok .next) ?_
 show Seg _ _ _ _ _ _ _ ((execs q.X.w3 q.env).wrap _ _ _ _) _ _
 refine seg_execs_cons (seg_While fun p'=>?_)
 refine rU (p:=.b) b ro nofun m' k' _ (fo.ret oV) (fun m2 k2 hm2 W3 hp3 s₀2 s2 g3 q3=>?_) W' hp' s₀' s' g' q'
 refine seg_leaf (.ok .next) ?_
 show Seg _ _ _ _ _ _ _ ((execs [] q.env).wrap _ _ _ _) _ _
 refine seg_execs_nil ?_
 show Seg _ _ _ _ _ _ _ ((execs [] q.env).wrap K H id lv) _ _
 refine seg_execs_nil ?_
 rw[hK]
 exact seg_again rfl (ih m2 k2 (by omega) W3 hp3 s₀2 s2 g3 q3)
theorem CI (b:GB q)(ro:Room (q.ng+3) A){fs:List Frame}(fo:FrOk 2 6 fs)(hend:∀ m W s₀ s,GI q W q.hpE s₀ s→q.Sg A m s₀ q.ol (leafOf (.ok .next)) fs s){m k:Nat}(ih:∀ m' k',(m'<m∨(m'=m∧k'<k))→Hk q A fs m' k'):Hk q A fs m k:=fun W hp s₀ s g h=>by
 have rm:Room q.ng (A.over q.ol fs):=(fo.up (by decide) (by decide):FrOk 4 12 fs).room ro oV
 cases h with
 |pass i _ _=>exact absurd rfl i
 |yld i _ _ _=>exact absurd rfl i
 |stop gc h gc2=>
  obtain⟨W0,g⟩:=g.drop b gc
  exact seg_whileLoop (wpAny_mono (h.go (g.at b rm) (Z:=fun b s'=>if b=true then _ else _) fun W1 t s1 z1 L1 x1=>CB (by rw[show t=false from x1];exact Bool.false_ne_true) (((g.step z1.a L1).drop b gc2).elim fun W2 g2=>seg_execs_nil (hend m W2 s₀ s1 g2))) (fun _ _ x=>x) fun _ _ f=>f.elim)
 |go gc h gc2 r=>
  obtain⟨W0,g⟩:=g.drop b gc
  exact seg_whileLoop (wpAny_mono (h.go (g.at b rm) (Z:=fun b s'=>if b=true then _ else _) fun W1 t s1 z1 L1 x1=>CD x1 (((g.step z1.a L1).drop b gc2).elim fun W2 g2=>CG b ro fo ih g2 r rfl)) (fun _ _ x=>x) fun _ _ f=>f.elim)
theorem AN (b:GB q)(ro:Room (q.ng+3) A){fs:List Frame}(fo:FrOk 2 6 fs)(hend:∀ m W s₀ s,GI q W q.hpE s₀ s→q.Sg A m s₀ q.ol (leafOf (.ok .next)) fs s):∀ m k,Hk q A fs m k:=by
 intro m
 induction m using Nat.strongRecOn with
 |ind m ihm=>
  intro k
  induction k using Nat.strongRecOn with
  |ind k ihk=>exact CI b ro fo hend fun m' k' h=>h.elim (fun x=>ihm m' x k') fun x=>x.1.symm▸ihk k' x.2
theorem AO (b:GB q)(ro:Room (q.ng+3) A){m k:Nat}{W:Wd}{hp hp1:List O}{s:Shared}(g:GI q W hp s s)(h0:RS q.c q.gs q.ng q.F hp q.X.s1 .next hp1)(h:q.PL m k .o hp1):q.Sg A m s (.func q.X.b q.env) (q.c.M.den (.func q.X.b q.env)) [] s:=by
 have rm:Room q.ng (A.over (.func q.X.b q.env) []):=(FrOk.nil.up (Nat.zero_le _) (Nat.zero_le _):FrOk 4 12 []).room ro CA
 refine seg_func (seg_execs_cons (seg_wrap (wpAny_mono (h0.go (g.at b rm) fun W1 f s1 z1 L1 x1=>?_) (fun _ _ x=>x) fun _ _ f=>f.elim)))
 rw[show f=.next from x1]
 refine seg_execs_cons (seg_While fun p=>?_)
 refine AN b ro (FrOk.nil.ret CA) (fun m' W' s₀' s' g'=>?_) m k W1 _ s s1 (g.step z1.a L1) h
 refine seg_leaf (.ok .next) ?_
 show Seg _ _ _ _ _ _ _ ((execs [] q.env).wrap _ _ _ _) _ _
 exact seg_execs_nil (seg_end (.ok (.ret .none)) ⟨rfl,W',g'⟩)
end
end
section
noncomputable def CJ:Nm:=[95,95,105,116,101,114,95,95]
theorem Hl:st CJ=("__iter__" :Str):=by decide+kernel
noncomputable def hY:Nm:=[115,101,108,102]
section
variable {M:Model}{A:Around}{E:Value→Shared→Prop}{s:Shared}{K:Frag}{x C f:Addr}{ox:Obj}{od:Option Obj}
theorem CK {Q:Value→Shared→Prop}(X:K.In s.heap)(I:PySem.W.InstAt s.heap x ox C od)(hs:findIn K (.ref C) "__iter__" =some (some (.ref f)))(hf:typeIn K (.ref f)=some (.type "function"))
  (h:wpAny M A (call (.ref f) [.ref x]) (fun v s'=>wpAny M A (specialOf v "__next__") (fun r s₂=>r≠none∧Q v s₂) E s') E s):wpAny M A (pyIter (.ref x)) Q E s:=by
 have mid:wpAny M A (do let v ← call (.ref f) [.ref x];pure (some v)) (fun r s'=>∃ v,r=some v∧wpAny M A (specialOf v "__next__") (fun r s₂=>r≠none∧Q v s₂) E s') E s:=
  wpAny_bind (wpAny_mono h (fun v s' q=>wpAny_pure ⟨v,rfl,q⟩) fun _ _ z=>z)
 have asked:∀ refuse:Sem Value,wpAny M A (callSpecialIfBoundUnlessNone? (.ref x) "__iter__" refuse) (fun r s'=>∃ v,r=some v∧wpAny M A (specialOf v "__next__") (fun r s₂=>r≠none∧Q v s₂) E s') E s:=by
  intro refuse
  unfold callSpecialIfBoundUnlessNone?
  simp only[bindSpecialIfBound?]
  refine wpAny_holding (wpAny_bind (wpAny_bind (wpAny_bind (I.type.here ((looks_findIn X hs).here ?_)))))
  have go:wpAny M A (if(Value.ref f==Value.none)=true then(refuse >>= fun v=>pure (some v))else(do let v ← call (.ref f) [.ref x];pure (some v))) (fun r s'=>∃ v,r=some v∧wpAny M A (specialOf v "__next__") (fun r s₂=>r≠none∧Q v s₂) E s') E s:=by
   rw[if_neg (by exact Bool.false_ne_true)]
   exact mid
  refine wpAny_bind (wpAny_askSetting (wpAny_ite ?_))
  split
  ·exact wpAny_bind ((bind_fn X _ hf).here (wpAny_pure (by exact go)))
  ·exact wpAny_tryCatch (wpAny_bind ((bind_fn X _ hf).here (wpAny_pure (by exact go))))
 unfold pyIter
 refine wpAny_bind (wpAny_bind (I.type.here ((looks_findIn X hs).here ?_)))
 show wpAny M A (callSpecialIfBoundUnlessNone? (.ref x) "__iter__" _ >>= _) Q E s
 refine wpAny_bind (wpAny_mono (asked _) (fun r s' hr=>?_) fun _ _ z=>z)
 obtain⟨v,rfl,hv⟩:=hr
 refine wpAny_bind (wpAny_mono hv (fun r s₂ hr=>?_) fun _ _ z=>z)
 cases r with
 |none=>exact absurd rfl hr.1
 |some _=>exact wpAny_pure hr.2
end
structure GenI (K:Frag) (fd:FuncData) (ns:aU) (body:List Stmt):Prop where
 code:codeIn K fd.code fd.qualname=true
 body:fd.body=.stmts body
 clo:fd.closure=[]
 glob:fd.globals=mainGlobals
 blt:fd.builtins=builtinsNs
 co:fd.scope.isCoroutine=false
 gen:fd.scope.isGenerator=true
 kind:fd.scope.kind=.function
 names:fd.scope.names=ns
 cells:eV ns=[]
 self:ns.lookup (st hY)=some .local
inductive GenD (K:Frag) (a:Addr) (names:aU) (body:List Stmt):Prop
 |mk (o:Obj) (fd:FuncData) (at_:K.lookup a=some o) (d:o.data=.func fd) (i:GenI K fd names body) (bind:∀ (s:Shared) (v:Value),K.In s.heap→BindsTo s fd ⟨[v],[]⟩ [(st hY,v)])
theorem rV {s:Shared}{g:Nat}{x:GenState}(h:g<s.gens.size):(s.setGen g x).gens[g]? =some x:=by
 unfold Shared.setGen;simp[h]
theorem rW {s:Shared}{g i:Nat}{x:GenState}(h:i≠g):(s.setGen g x).gens[i]? =s.gens[i]? :=Array.getElem?_setIfInBounds_ne (Ne.symm h)
theorem vQ {s:Shared}{g:Nat}{x:GenState}:(s.setGen g x).gens.size=s.gens.size:=Array.size_setIfInBounds ..
structure GenG (s s':Shared) (g:Nat):Prop where
 le:s.gens.size≤g
 lt:g<s'.gens.size
 keep:∀ i,i<s.gens.size→s'.gens[i]? =s.gens[i]?
 bare:∀ i z,s.gens.size≤i→i≠g→s'.gens[i]? =some z→z.bare=true
theorem GenG.set {s s':Shared}{g:Nat}{z:GenState}(h:GenG s s' g):GenG s (s'.setGen g z) g:=
 ⟨h.le,by rw[vQ];exact h.lt,fun i hi=>(rW (Nat.ne_of_lt (Nat.lt_of_lt_of_le hi h.le))).trans (h.keep i hi),fun i z' hi hn e=>h.bare i z' hi hn ((rW hn).symm.trans e)⟩
theorem GenG.step {s s' s'':Shared}{g:Nat}(h:GenG s s' g)(S:GenS s'.gens s''.gens):GenG s s'' g:=
 ⟨h.le,Nat.lt_of_lt_of_le h.lt S.size,fun i hi=>(S.keep i (Nat.lt_trans (Nat.lt_of_lt_of_le hi h.le) h.lt)).trans (h.keep i hi),fun i z hi hn e=>
  (Nat.lt_or_ge i s'.gens.size).elim (fun q=>h.bare i z hi hn ((S.keep i q).symm.trans e)) fun q=>S.bare i z q e⟩
theorem GenG.done {s s':Shared}{g:Nat}(h:GenG s s' g)(e:s'.gens[g]? =some .finished):GenS s.gens s'.gens:=
 ⟨Nat.le_of_lt (Nat.lt_of_le_of_lt h.le h.lt),h.keep,fun i z hi e'=>(Classical.em (i=g)).elim (fun q=>by rw[q,e]at e';cases e';rfl) fun q=>h.bare i z hi q e'⟩
theorem GenG.new {s s2 s3:Shared}{x:GenState}(S:GenS s.gens s2.gens)(e:s3.gens=s2.gens.push x):GenG s s3 s2.gens.size:=
 ⟨S.size,by rw[e,Array.size_push];exact Nat.lt_succ_self _,fun i hi=>by
  have q:=Nat.lt_of_lt_of_le hi S.size
  rw[e,Array.getElem?_push_lt q,← Array.getElem?_eq_getElem q];exact S.keep i hi,fun i z hi hn h=>by
  rw[e]at h
  by_cases q:i<s2.gens.size
  ·rw[Array.getElem?_push_lt q,← Array.getElem?_eq_getElem q]at h
   exact S.bare i z hi h
  ·rw[Array.getElem?_eq_none (by rw[Array.size_push];omega)]at h;cases h⟩
theorem Rel.grown {P:Params}{W:Wd}{hp:List O}{h h':Heap}(R:Rel P W hp h)(hk:∀ b o,h.get? b=some o→h'.get? b=some o):Rel P W hp h'∧Ext W hp h W hp h':=
 ⟨R.via (k:=id) R.len (fun a o e=>hk _ _ (R.fz a o e)) (fun _ o v=>.mk o v rfl ((R.obj _ _ v).imp (fun _=>hk _ _) fun _=>id) (R.cold _ _ v)) fun _ _ _ _=>id,
  .refl W,fun a o e=>⟨fun _=>hk a o e,id,⟨o,hk a o e⟩,fun _=>.inl⟩⟩
structure EnvG (W:Wd) (gf:Nat) (gs:aU) (env:Env):Prop where
 f:FrR W ⟨gf,[]⟩ env
 n:env.scope.names=gs
 co:env.scope.isCoroutine=false
theorem AP (hp1:List O)(l:Nat):yG ⟨hp1.length,[]⟩ [hY] [.ref l] (hp1++[.fr []])=some (hp1++[.fr [(hY,.ref l)]]):=by
 show(((hp1++[O.fr []])[hp1.length]?.bind O.frE).map fun es=>(hp1++[O.fr []]).set hp1.length (.fr (pt es hY (.ref l)))).bind _=_
 rw[List.getElem?_concat_length]
 show some ((hp1++[O.fr []]).set hp1.length (.fr [(hY,.ref l)]))=_
 rw[List.set_append_right hp1.length _ (Nat.le_refl _),Nat.sub_self]
 rfl
inductive LpI (q:GQ) (A:Around) (g:Nat) (s:Shared) (m:Nat) (s':Shared):Prop
 |mk (W':Wd) (hp':List O) (gst:GenState) (gi:GI q W' hp' s' s') (os:s'.os=s.os) (gg:GenG s s' g) (at_:s'.gens[g]? =some gst) (goes:gst.Goes q.c.M A.in1 (GR q) (GY q) m (.send .none) (s'.setGen g .running)):LpI q A g s m s'
structure LpB (q:GQ) (A:Around) (sc:aU) (n:Nat) (F:Fx) (y:Str) (px:Pos) (rb:List Stmt) (W:Wd) (hp:List O) (s:Shared) (env:Env) (ga:Addr) (g:Nat):Prop where
 b:GB q
 z:AtF q.c sc n F hp A W s env
 E:Ext W hp s.heap q.Wi q.hpi q.si.heap
 isg:∀ W' hp' h,q.Wi.le W'→Rel q.c.P W' hp' h→h.IsGen ga g
 cn:q.Cn=Cons q.c sc n F (.Name y px) rb q.hpi.length
section
variable {q:GQ}{A:Around}{sc:aU}{n:Nat}{F:Fx}{y:Str}{px:Pos}{rb:List Stmt}{W:Wd}{hp:List O}{s:Shared}{env:Env}{ga:Addr}{g:Nat}
theorem LpB.at (B:LpB q A sc n F y px rb W hp s env ga g){W':Wd}{hp':List O}{s₀ s':Shared}(gi:GI q W' hp' s₀ s')(gs:GenState):AtF q.c sc n F hp' A W' (s'.setGen g gs) env:=
 ⟨⟨B.z.a.room,gi.r,fun a o e=>gi.e.le.fz a o (B.b.k a o e),gi.t⟩,B.z.f.mono (B.E.le.trans gi.e.le),B.z.sc⟩
theorem xK (B:LpB q A sc n F y px rb W hp s env ga g){mm:Nat}{s' s5 s7:Shared}{gs5:GenState}{W5 W7:Wd}{hp5 hp7 hp8:List O}{p:Pt}(gg:GenG s s' g)(os:s'.os=s.os)(gi5:GI q W5 hp5 (s'.setGen g .running) s5)
  (kp:∀ s'' W'' hp'',GI q W'' hp'' s'' s''→q.NX (mm-1) p hp''→(match mm with|0=>False|m+1=>gs5.Goes q.c.M A.in1 (GR q) (GY q) m (.send .none) s''))
  (z7:At q.c n A W7 hp7 s7)(L:Lat W5 hp5 (s5.setGen g gs5) W7 hp7 s7)(gc:Gc q.hpi.length hp7 hp8)(r:q.NX (mm-1) p hp8):∃ m,m<mm∧LpI q A g s m s7:=by
 have lt5:g<s5.gens.size:=Nat.lt_of_lt_of_le (gg.set (z:=.running)).lt gi5.g.size
 have GG5:GenG s (s5.setGen g gs5) g:=((gg.set (z:=.running)).step gi5.g).set
 obtain⟨W8,gi8⟩:=GI.drop (s₀:=s7) B.b ⟨z7.rel,z7.tk,gi5.e.trans L.e,.refl _,rfl⟩ gc
 have kq:=kp (s7.setGen g .running) W8 _ ⟨gi8.r,gi8.t,gi8.e,.refl _,rfl⟩ r
 cases mm with
 |zero=>exact kq.elim
 |succ mm=>exact⟨mm,Nat.lt_succ_self _,.mk W8 _ gs5 gi8 (L.o.trans (gi5.o.trans os)) (GG5.step L.g) ((L.g.keep _ GG5.lt).trans (rV lt5)) kq⟩
theorem CM (B:LpB q A sc n F y px rb W hp s env ga g){mm:Nat}{s' s5:Shared}{gs5:GenState}{v:Value}{Q:Flow→Shared→Prop}{E1 E2:Value→Shared→Prop}(gg:GenG s s' g)(os:s'.os=s.os)
  (hy:GYi q (mm-1) (s'.setGen g .running) v s5 fun r' s''=>match mm with|0=>False|m+1=>gs5.Goes q.c.M A.in1 (GR q) (GY q) m r' s'')
  (hQ:∀ s3 f,(f=.next∨f=.cont)→(∃ m,m<mm∧LpI q A g s m s3)→Q f s3):wpAny q.c.M A (assign (.Name y px) env v) (fun _ s₂=>wpAny q.c.M A (execs rb env) Q E2 s₂) E1 (s5.setGen g gs5):=
 match hy with
 |.mk W5 hp5 x p gi5 xv cn kp=>match(B.cn▸cn:Cons q.c sc n F (.Name y px) rb q.hpi.length x hp5 (q.NX (mm-1) p))with
  |.mk g1 g2 on gc r=>wpAny_mono (go (B.at gi5 gs5).a (g1 A W5 _ env v (B.at gi5 gs5) xv) fun W6 _ s6 a6 L6 _=>
    wpAny_mono (g2.go ((B.at gi5 gs5).next L6 a6) fun W7 f s7 z7 L7 x7=>hQ s7 f (Bt x7 on) (xK B gg os gi5 kp z7.a (L6.trans L7) gc r)) (fun _ _ z=>z) fun _ _ f=>f.elim) (fun _ _ z=>z) fun _ _ f=>f.elim
theorem CN (B:LpB q A sc n F y px rb W hp s env ga g){R:Result→Shared→Prop}(hR:∀ W5 s',Rel q.c.P W5 q.hpE s'.heap→Lat W hp s W5 q.hpE s'→R (.ok .next) s'){m:Nat}{s0:Shared}(h:LpI q A g s m s0):codeAny q.c.M A (.forLoop (.Name y px) (.ref ga) rb [] env) R s0:=by
 refine codeAny_forLoop (LpI q A g s) ?_ m h
 rintro mm s' ⟨W',hp',gst,gi,os',GG',hgs,goes⟩
 refine wpAny_pyNext_gen B.z.a.room.hd (B.at gi .running).a.nolimit B.z.a.room.rl (B.isg W' hp' _ gi.e.le gi.r) hgs goes (fun v s5 gs5 hy=>CM B GG' os' hy fun s3 f o x=>(by cases o with|inl e=>subst e;exact x|inr e=>subst e;exact x)) fun s5 hp5 h' hk'=>?_
 refine hp5.elim fun W5 gi5=>wpAny_execs_nil ?_
 have gr:=gi5.r.grown hk'
 exact hR W5 _ gr.1 ⟨(B.E.trans gi5.e).trans gr.2,(((GG'.set (z:=.running)).step gi5.g).set (z:=.finished)).done (rV (Nat.lt_of_lt_of_le (GG'.set (z:=.running)).lt gi5.g.size)),gi5.o.trans os'⟩
theorem LT {m k:Nat}{s3:Shared}{hp2:List O}{R:Result→Shared→Prop}(B:LpB q A sc n F y px rb W hp s env ga s3.gens.size)(rm:Room (q.ng+3) A.in1)(S:GenS s.gens s3.gens)(os:q.si.os=s.os)(g4:q.si.gens=s3.gens.push (.fresh (.func q.X.b q.env)))(t:0<q.si.toks)
  (h0:RS q.c q.gs q.ng q.F q.hpi q.X.s1 .next hp2)(h:q.PL m k .o hp2)(hR:∀ W5 s',Rel q.c.P W5 q.hpE s'.heap→Lat W hp s W5 q.hpE s'→R (.ok .next) s'):codeAny q.c.M A (.forLoop (.Name y px) (.ref ga) rb [] env) R q.si:=
 CN B hR (.mk q.Wi q.hpi (.fresh (.func q.X.b q.env)) ⟨B.b.b,t,.refl ..,.refl _,rfl⟩ os (GenG.new S g4) (by rw[g4,Array.getElem?_push_size]) ⟨rfl,AO (s:=q.si.setGen s3.gens.size .running) B.b rm ⟨B.b.b,t,.refl ..,.refl _,rfl⟩ h0 h⟩)
end
section
variable {c:Cx}{sc gs:aU}{fa ng n:Nat}{F:Fx}{X:GenX}{ri:Expr}{px pos:Pos}{y:Str}{rb:List Stmt}{l m k:Nat}{hp hp1 hp2 hpE:List O}{I:Ins}{cl:Cl}
theorem AQ {hpi:List O}{W W3:Wd}{s s3 s4:Shared}{A:Around}{env genv:Env}{ob:Obj}{gf:Nat}{E:Value→Shared→Prop}{R:Result→Shared→Prop}(z:AtF c sc n F hp A W s env)(rm:Room (ng+3) A.in1)(z3:AtF c gs (ng+3) ⟨gf,[]⟩ hpi A.in1 W3 s3 genv)(L:Lat W hp s W3 hpi s3)
  (co:genv.scope.isCoroutine=false)(hfree:ob.isFreed=false)(isg:∀ {h:Heap},h.get? s3.heap.objs.size=some ob→h.IsGen s3.heap.objs.size s3.gens.size)
  (h4h:s4.heap=s3.heap.push ob)(h4g:s4.gens=s3.gens.push (.fresh (.func X.b genv)))(h4o:s4.os=s3.os)(h4t:0<s4.toks)(h0:RS c gs ng ⟨gf,[]⟩ hpi X.s1 .next hp2)
  (h:Pull c gs ng ⟨gf,[]⟩ X.t hpi.length (YM (Cons c sc n F (.Name y px) rb hpi.length) hpE c gs ng ⟨gf,[]⟩ X.t hpi.length m) hpE k .o hp2)(hR:∀ W5 s',Rel c.P W5 hpE s'.heap→Lat W hp s W5 hpE s'→R (.ok .next) s'):
  wpAny c.M A (specialOf (.ref s3.heap.objs.size) "__next__") (fun r s₂=>r≠none∧codeAny c.M A (.forLoop (.Name y px) (.ref s3.heap.objs.size) rb [] env) R s₂) E s4:=by
 have y4:=z3.a.rel.allocZ hfree
 rw[← h4h]at y4
 have hfz:(W3.freeze s3.heap.objs.size ob).fz s3.heap.objs.size=some ob:=if_pos rfl
 generalize W3.freeze s3.heap.objs.size ob=W4 at y4 hfz
 refine wpAny_specialOf (isg (y4.1.fz _ _ hfz)).typeIs slot_gen_next.lookup ⟨nofun,?_⟩
 exact LT (q:=⟨c,gs,ng,gf,X,Cons c sc n F (.Name y px) rb hpi.length,hpE,W4,hpi,s4,genv⟩) (m:=m) (k:=k)
  ⟨⟨y4.1,fun a o e=>y4.2.le.fz a o (z3.a.kin a o e),z3.f.mono y4.2.le,z3.sc,co,by unfold interactive;rw[z3.f.kind];rfl⟩,z,L.e.trans y4.2,fun W' hp' h le r=>isg (r.fz _ _ (le.fz _ _ hfz)),rfl⟩
  rm L.g (h4o.trans L.o) h4g h4t h0 h hR
theorem LU (D:GenD c.K fa gs X.b)(hf:∀ env x,foldedSetIterable ri env x=pure x)(hng:ng+5≤n)
  (h1:RE c sc n F hp ri (.ref l) hp1)(e1:vA hp1 l=some I)(e2:yF c.G.cls I.c=some cl)(e3:lk cl.meths CJ=some fa)(h0:RS c gs ng ⟨hp1.length,[]⟩ (hp1++[.fr [(hY,.ref l)]]) X.s1 .next hp2)
  (h:Pull c gs ng ⟨hp1.length,[]⟩ X.t (hp1++[O.fr [(hY,.ref l)]]).length (YM (Cons c sc n F (.Name y px) rb (hp1++[O.fr [(hY,.ref l)]]).length) hpE c gs ng ⟨hp1.length,[]⟩ X.t (hp1++[O.fr [(hY,.ref l)]]).length m) hpE k .o hp2):RS c sc n F hp (.For (.Name y px) ri rb [] pos) .next hpE:=fun A W s env z=>by
 refine wpAny_For (h1.go z fun W1 u s1 z1 L1 x1=>?_) (hf env)
 match D,lP z1.a.rel e1 with
 |.mk o fd ho hd Gi bind,.mk en kk lv nd E gd IA=>
 rw[show u=.ref (W1.ρ l)from x1.2]
 have M:=(Jh (c:=c) e2).meths CJ fa e3
 have mf:=M.find
 rw[Hl]at mf
 have KI:=z1.a.In
 refine CK KI IA mf M.type (wpAny_call ?_)
 refine codeAny_call_generator z.a.room.rl (KI _ _ ho) hd Gi.co Gi.gen Gi.body (codeRec_of KI Gi.code) (bind s1 (.ref (W1.ρ l)) KI _ _ _ _ ?_)
 rw[Gi.clo,Gi.glob,Gi.blt]
 simp only[newFunctionEnv,Option.isSome_none,Bool.false_eq_true,if_false]
 have rm1:Room (ng+3) A.in1:=Room.in1 (z.a.room.less (Nat.le_trans (Nat.le_succ _) hng))
 have y0:=z1.a.rel.alloc (o:=.fr []) (ob:=⟨.type "frame",none,.dict #[],#[]⟩) (.mk "frame" [] 0 rfl)
 have L0:Lat W1 hp1 s1 _ _ {s1 with heap:=_}:=.of (t:=s1.toks) y0.2
 refine wpAny_bind (wpAny_alloc (wpAny_bind (wpAny_with_toks (n:=s1.toks) (Nat.le_refl _) (wpAny_mono (E:=no) (mA (c:=c) (A:=A.in1) _ (fun name kind cells=>rfl) fd.scope.names [] [] (hp1++[.fr []]) _ {s1 with heap:=s1.heap.push ⟨.type "frame",none,.dict #[],#[]⟩} y0.1 (fun x l e=>nomatch e)
  fun W2 ca s2 Rr L2 C2 t2=>?_) (fun _ _ q=>q) fun _ _ f=>f.elim))))
 rw[Gi.names,Gi.cells]at Rr L2 C2
 have ge:EnvG W2 hp1.length gs {scope:=fd.scope,locals:=s1.heap.objs.size,globals:=mainGlobals,cells:=ca,qual:=fd.qualname++Str.ofString ".<locals>.",func:=some fa,code:=fd.code,frame:=some s1.heap.objs.size,builtins:=builtinsNs}:=
  ⟨⟨Nat.lt_of_lt_of_le (by rw[y0.1.len,List.length_append];exact Nat.lt_succ_self _) L2.le.n,((L2.le.ρ _ (by rw[y0.1.len,List.length_append];exact Nat.lt_succ_self _)).trans (z1.a.rel.push_at _)).symm,C2,Gi.kind,rfl,rfl⟩,Gi.names,Gi.co⟩
 generalize ({scope:=fd.scope,locals:=s1.heap.objs.size,globals:=mainGlobals,cells:=ca,qual:=fd.qualname++Str.ofString ".<locals>.",func:=some fa,code:=fd.code,frame:=some s1.heap.objs.size,builtins:=builtinsNs}:Env)=genv at ge
 have L02:Lat _ _ s1 W2 (hp1++[O.fr []]) s2:=L0.trans L2
 refine wpAny_bind (wpAny_with_toks (n:=s2.toks) (Nat.le_refl _) (wpAny_mono (E:=no) (s9 (c:=c) (sc:=gs) (hp2:=hp1++[.fr [(hY,.ref l)]]) _ (fun _ _ _=>rfl) [hY] [.ref l] [.ref (W1.ρ l)] _ W2 s2 ⟨(z1.a.next L02 Rr t2).to rm1,ge.f,ge.n⟩ (R2.one (VR.mono L02.le ⟨x1.1,rfl⟩)) (fun x m=>by rw[List.mem_singleton.mp m];show genv.scope.names.lookup _=_;rw[ge.n];exact Gi.self) (AP hp1 l)
  fun W3 s3 z3 L3 t3=>wpAny_pure ⟨z3.a.nolimit,AQ (X:=X) z rm1 z3 (L1.trans (L02.trans L3)) ge.co rfl (fun e=>⟨_,_,_,e,rfl,rfl,rfl⟩) rfl rfl rfl (Nat.succ_pos _) h0 h fun W5 s' r L=>.mk W5 r L rfl⟩) (fun _ _ q=>q) fun _ _ f=>f.elim))
end
end
section
noncomputable def y7:aU→Nm→Option NameKind
 | [],_=>none
 |p::r,x=>match nb p.1.cps.toList x with
  |true=>some p.2
  |false=>y7 r x
theorem CO (x:Nm):∀ sc:aU,y7 sc x=sc.lookup (st x)
 | []=>rfl
 |p::r=>by
  unfold y7
  rw[List.lookup_cons,← CO x r]
  cases e:nb p.1.cps.toList x with
  |true=>rw[← iH e,bA,beq_self_eq_true]
  |false=>rw[beq_eq_false_iff_ne.mpr fun q:st x=p.1=>rL e (by rw[← q];rfl)]
theorem iA {sc:aU}{q:Str}{k:NameKind}(h:y7 sc q.cps.toList=some k):sc.lookup q=some k:=by rw[CO,bA]at h;exact h
noncomputable def Ob:Nm:=[95,95,100,101,98,117,103,95,95]
noncomputable def SV:Nm:=[95,95,99,108,97,115,115,100,105,99,116,95,95]
noncomputable def LV:Nm:=[114,101,112,108,97,99,101]
theorem LX:st Ob=("__debug__" :Str):=by decide+kernel
theorem Oc:st SV=("__classdict__" :Str):=by decide+kernel
theorem LY:st LV=("replace" :Str):=by decide+kernel
theorem Jr {q:Str}{x:Nm}{y:Str}(e:st x=y)(h:nb q.cps.toList x=false):(q==y)=false:=beq_eq_false_iff_ne.mpr fun w=>rL h (by rw[w,← e];rfl)
theorem Od {q:Str}{x:Nm}{y:Str}(e:st x=y)(h:nb q.cps.toList x=true):q=y:=by rw[← e,← iH h,bA]
noncomputable def tI:Expr→Bool
 |.Call (.Name ..) [] [] _=>false
 |_=>true
theorem nJ {r:Expr}(h:tI r=true)(name:Str)(env:Env)(wh:Sem Value):attributeBase r name env wh=wh:=by
 cases r with
 |Call f as ks p=>cases f with
  |Name=>cases as with
   |nil=>cases ks with
    |nil=>exact nomatch h
    |cons=>rfl
   |cons=>rfl
  |_=>rfl
 |_=>rfl
noncomputable def y8:Expr→Bool
 |.Attribute .. =>false
 |_=>true
theorem LZ {g:Expr}{rs:List Expr}{pos:Pos}(h:y8 g=true):eval (.Call g rs [] pos)=fun env=>(do callWith pos (← eval g env) [] (backTo pos (starEach rs env)) (backToKw pos (keywordEach [] env))):=by
 cases g with
 |Attribute=>exact nomatch h
 |_=>rfl
noncomputable def nK:Expr→Bool
 |.Set .. =>false
 |.SetComp .. =>false
 |_=>true
theorem dA {r:Expr}(h:nK r=true)(env:Env)(x:Value):foldedSetIterable r env x=pure x:=by
 cases r with
 |Set=>exact nomatch h
 |SetComp=>exact nomatch h
 |_=>rfl
noncomputable def Oe:Expr→Bool
 |.Name .. =>true
 |.Attribute .. =>true
 |.Call .. =>true
 |.Subscript .. =>true
 |.BinOp .. =>true
 |_=>false
theorem Hm {r:Expr}(h:Oe r=true)(env:Env)(whole:Sem Value):PySem.isTrue r env whole=(do let v ← whole;standAt r.pos;holding [v] (truthy v)):=by
 cases r with
 |Name=>rfl
 |Attribute=>rfl
 |Call=>rfl
 |Subscript=>rfl
 |BinOp=>rfl
 |_=>exact nomatch h
noncomputable def Js:NameKind→Bool
 |.local=>true
 |_=>false
theorem CS {k:NameKind}(h:k=.local):Js k=true:=h▸rfl
noncomputable def iK:Option NameKind→Bool
 |some .local=>true
 |_=>false
theorem iB {k:Option NameKind}(h:iK k=true):k=some .local:=by
 cases k with
 |none=>cases h
 |some k=>cases k with
  | «local» =>rfl
  |_=>cases h
noncomputable def Of:ScopeKind→Bool
 |.function=>true
 |_=>false
theorem Hn {k:ScopeKind}(h:Of k=true):k=.function:=by
 cases k with
 |function=>rfl
 |_=>cases h
noncomputable def Og:List Nm→Bool
 | []=>true
 |_=>false
theorem Ho:∀ {l:List Nm},Og l=true→l=[]
 | [],_=>rfl
noncomputable def La (scope:Scope)(ri:Expr)(cs:List (Nm×Nat)):Bool:=Of scope.kind&&(Og (eV scope.names)&&(((cW scope.names).all fun x=>(lk cs x).isSome)&&((scope.names.all fun x=> !Js x.2||iK (y7 scope.names x.1.cps.toList))&&nK ri)))
theorem fR {scope:Scope}{ri:Expr}{cs:List (Nm×Nat)}(h:La scope ri cs=true):ComOk scope ri cs:=
 have h:=Bool.and_eq_true_iff.mp h
 have h2:=Bool.and_eq_true_iff.mp h.2
 have h3:=Bool.and_eq_true_iff.mp h2.2
 have h4:=Bool.and_eq_true_iff.mp h3.2
 ⟨Hn h.1,Ho h2.1,h3.1,fun x m e=>by
  have q:=List.all_eq_true.mp h4.1 x m
  rw[CS e]at q
  exact iA (iB q),dA h4.2⟩
inductive StIs (sc:aU) (g r:Expr):Type where
 |plain (h:∀ env,env.scope.kind=.function→env.scope.names=sc→swappedStores [g] r env=pure none)
 |no
noncomputable def Oh (sc:aU)(ts:List Expr)(k:Nat)(p:Pos):(r:Expr)→StIs sc (.Tuple ts k p) r
 |.Tuple vs k' p'=>match e:vs.all (foldedForSure 8)with
  |true=>.plain fun env _ _=>by
   unfold swappedStores
   dsimp only
   rw[e]
   split
   ·rfl
   ·split
    ·rfl
    ·split
     ·rfl
     ·rfl
  |false=>.no
 |.Call .. =>.plain fun _ _ _=>rfl
 |.Name .. =>.plain fun _ _ _=>rfl
 |.Attribute .. =>.plain fun _ _ _=>rfl
 |.Subscript .. =>.plain fun _ _ _=>rfl
 |_=>.no
noncomputable def SW (sc:aU):(g r:Expr)→StIs sc g r
 |.Name ..,_=>.plain fun _ _ _=>rfl
 |.Attribute ..,_=>.plain fun _ _ _=>rfl
 |.Subscript ..,_=>.plain fun _ _ _=>rfl
 |.Tuple ts k p,r=>Oh sc ts k p r
 |_,_=>.no
section
variable {c:Cx}{sc:aU}{n:Nat}{F:Fx}{hp hp1 hp2 hp3:List O}{a b:Str}{pa pb p p' pos:Pos}{k k':Nat}{x y:Expr}{v:V}{v1 v2:V}
noncomputable def Hp (env:Env)(sc:aU):Env:={env with scope:={env.scope with kind:=.function,names:=sc}}
noncomputable def Hq (sc:aU)(t:Stmt)(env:Env):Sem (Option (List Str)):=match t with
 |.Assign ts r _=>swappedStores ts r (Hp env sc)
 |_=>pure none
noncomputable def Hr (a b:Str):Env→Sem (Option (List Str)):=fun _=>pure (some [a,b])
theorem Jt (hk:sc.lookup a=some .local)(e:lO F a.cps.toList v hp=some hp1){A:Around}{W:Wd}{s:Shared}{env:Env}{u:Value}(z:AtF c sc n F hp A W s env)(hv:VR c.P W v u):c.wp A (bindName env a u) (Post c u8 W hp s () hp1) s:=
 wpAny_bindName (by have:=sY (x:=a.cps.toList) z (by rw[bA];unfold Env.kindOf;rw[z.sc];exact hk) hv e;rwa [bA]at this)
theorem Lb (ha:iK (y7 sc a.cps.toList)=true)(hb:iK (y7 sc b.cps.toList)=true)(h:Hq sc (.Assign [.Tuple [.Name a pa,.Name b pb] k p] (.Tuple [x,y] k' p') pos)=Hr a b)(h1:RE c sc n F hp (.Tuple [x,y] k' p') v hp1)(e:iP v hp1=some [v1,v2])(t1:lO F b.cps.toList v2 hp1=some hp2)(t2:lO F a.cps.toList v1 hp2=some hp3):
  RS c sc n F hp (.Assign [.Tuple [.Name a pa,.Name b pb] k p] (.Tuple [x,y] k' p') pos) .next hp3:=fun A W s env z=>by
 have he:Hp env sc=env:=by unfold Hp;rw[← z.f.kind,← z.sc]
 have hq:swappedStores [.Tuple [.Name a pa,.Name b pb] k p] (.Tuple [x,y] k' p') (Hp env sc)=pure (some [a,b]):=congrFun h env
 rw[he]at hq
 refine PyProof.Rows.Assign_Tuple_swapped (names:=[a,b]) (h1.go z fun W1 u s1 z1 L1 x1=>?_) (lR (r:=.Tuple [x,y] k' p') rfl (some (.Tuple [.Name a pa,.Name b pb] k p)) pos.line env) hq
 match u,hU z1.a.rel x1 e with
 |_,.mk l us m I d=>
  obtain⟨u1,u2,rfl,d1,d2⟩:=oT d
  refine PyProof.Rows.unpackItems_tuple z.a.room.hd (items:=#[u1,u2]) ⟨_,I,rfl,m,rfl⟩ fun h' sb=>?_
  have q:=strange z1.a fun b o ne e=>sb b o ne e
  have z2:=z1.next q.2 (z1.a.next q.2 q.1 (Nat.le_refl _))
  show wpAny _ A (do holding [u1] (bindName env b u2);assignInOrder [bindName env a] [u1]) _ _ _
  refine wpAny_bind (wpAny_holding (go z2.a (Jt (iA (iB hb)) t1 z2 d2) fun W2 _ s2 a2 L2 _=>?_))
  show wpAny _ A (do holding [] (bindName env a u1);assignInOrder [] []) _ _ _
  refine wpAny_bind (wpAny_holding (go a2 (Jt (iA (iB ha)) t2 (z2.next L2 a2) (d1.mono L2.le)) fun W3 _ s3 a3 L3 _=>?_))
  exact wpAny_pure (.last (t:=s3.toks) a3 ((L1.trans q.2).trans (L2.trans L3)) rfl)
end
end
section
inductive Hi where
 |tst (k:Nat) (b:Bool)
 |val (k:Nat) (v:V)
 |cal (f m:Nat) (σ:List Nat) (v:V) (hp:List O)
 |nxt (m:Nat) (σ:List Nat) (v:V) (hp:List O)
 |itm (k:Nat) (v:V)
 |set (hp:List O)
 |cll (f m:Nat) (v:V) (hp:List O)
 |inl (f:Nat) (σ:List Nat)
 |sub (k:Nat) (v:V)
 |cmp (k:Nat) (b:Bool)
 |exp (k:Nat) (v:V) (hp:List O)
 |bm (v:V) (hp:List O)
 |stm (l:Nat) (fl:Fl) (hp:List O)
 |led (l:Nat) (hp:List O)
structure St where
 hp:List O
 hs:List Hi
 g:Bool
 ob:Prop
structure St.Ok (S:St):Prop where
 g:S.g=true
 ob:S.ob
structure Out (S:St) (β:Type) (T:β→List O→Prop) where
 v:β
 s:St
 ok:s.Ok→S.Ok∧T v s.hp
noncomputable def p9:Bool→Bool→Bool
 |true,b=>b
 |false,_=>false
theorem jK:∀ {a b:Bool},p9 a b=true→a=true∧b=true
 |true,_,h=>⟨rfl,h⟩
noncomputable def St.up (S:St)(hp:List O)(g:Bool):St:=⟨hp,S.hs,p9 g S.g,S.ob⟩
theorem St.up_ok {S:St}{hp:List O}{g:Bool}(h:(S.up hp g).Ok):g=true∧S.Ok:=have q:=jK h.g;⟨q.1,q.2,h.ob⟩
noncomputable def bd {α β:Type}(x:Option α)(f:α→Option β):Option β:=match x with
 |some a=>f a
 |none=>none
noncomputable def at_ (p:Pos)(k:Nat):Bool:=Nat.beq (Nat.add (Nat.mul p.line 1000000) (Nat.add (Nat.mul p.col 1000) p.endCol)) k
section
variable {S:St}{T:V→List O→Prop}{U:Bool→List O→Prop}
noncomputable def Oi (p:Pos)(a:Out S V T):Out S V T:=match a.s.hs with
 |.val k v::r=>match at_ p k with
  |true=>⟨v,⟨a.s.hp,r,a.s.g,a.v=v∧a.s.ob⟩,fun h=>have q:=a.ok ⟨h.g,h.ob.2⟩;⟨q.1,h.ob.1▸q.2⟩⟩
  |false=>a
 |_=>a
noncomputable def CU (p:Pos)(a:Out S Bool U):Out S Bool U:=match a.s.hs with
 |.tst k t::r=>match at_ p k with
  |true=>⟨t,⟨a.s.hp,r,p9 (GS t a.v) a.s.g,a.s.ob⟩,fun h=>have w:=jK h.g;have q:=a.ok ⟨w.2,h.ob⟩;⟨q.1,(show a.v=t from(eq_of_beq ((lQ t a.v).trans w.1)).symm)▸q.2⟩⟩
  |false=>a
 |_=>a
end
structure Tab (c:Cx) where
 l:List (Nat×Fn)
 ok:∀ a F,(a,F)∈l→FnD c.P c.K a F
noncomputable def qA {α:Type}:List (Nat×α)→Nat→Option α
 | [],_=>none
 |x::r,b=>match Nat.beq x.1 b with
  |true=>some x.2
  |false=>qA r b
theorem kK {α:Type}{b:Nat}{x:α}:∀ {l:List (Nat×α)},qA l b=some x→(b,x)∈l
 |y::r,h=>by
  unfold qA at h
  cases e:Nat.beq y.1 b with
  |true=>rw[e]at h;rw[← Nat.eq_of_beq_eq_true e,← Option.some.inj h];exact .head _
  |false=>rw[e]at h;exact .tail _ (kK h)
structure Ev (c:Cx) where
 e:(sc:aU)→(n:Nat)→(F:Fx)→(r:Expr)→(S:St)→Option (Out S V (RE c sc n F S.hp r))
 t:(sc:aU)→(n:Nat)→(F:Fx)→(r:Expr)→(S:St)→Option (Out S Bool (RB c sc n F S.hp r))
 x:(sc:aU)→(n:Nat)→(F:Fx)→(r:List Stmt)→(S:St)→Option (Out S Fl (RX c sc n F S.hp r))
 g:(sc:aU)→(n:Nat)→(F:Fx)→(r:Expr)→(v:V)→(S:St)→Option (Out S Unit (fun _ hp'=>RG c sc n F S.hp r v hp'))
 ap:(n:Nat)→(f:V)→(args:List V)→(S:St)→Option (Out S V (GV c n S.hp f args))
 call:(n f:Nat)→(args:List V)→(S:St)→Option (Out S V (CallOk c n f args S.hp))
section
variable {c:Cx}{n:Nat}{hp hp2:List O}{args:List V}
theorem Rel.freeze0 {P:Params}{W:Wd}{h:Heap}(R:Rel P W hp h){l:Nat}{d:D}(e:g9 l hp=some d):∃ W',Rel P W' (hp.set l .gone) h∧Ext W hp h W' (hp.set l .gone) h∧DR P W'.fz d (.ref (W.ρ l)):=
 (bS e).elim fun o q=>have v:Lv hp l o:=⟨q.1,O.dt_live q.2⟩;match R.obj _ _ v with
  |.mk ob g r=>
   have z:=R.cold _ _ v
   have le:=Wd.le_freeze (o:=ob) z
   have pk:∀ k o1,Lv (hp.set l .gone) k o1→From P W hp h (W.freeze (W.ρ l) ob) (id k) k o1:=fun k o1 x=>match x.set with
    |.inl ⟨_,e'⟩=>nomatch (e'▸x.v:O.live .gone=true)
    |.inr ⟨n,y⟩=>.mk o1 y rfl ((R.obj _ _ y).imp (fun _=>id) fun _=>OR.mono le) ((if_neg fun q=>n (R.inj _ _ _ _ y v q)).trans (R.cold _ _ y))
   ⟨_,R.via (k:=id) (by rw[List.length_set];exact R.len) (fun a o1 e=>by
     by_cases q:a=W.ρ l
     ·subst q;rw[← Option.some.inj ((if_pos rfl).symm.trans e)];exact g
     ·exact R.fz _ _ ((if_neg q).symm.trans e)) pk fun _ _ _ _=>id,
    ⟨le,fun a o1 e=>⟨fun _=>e,From.live pk,⟨o1,e⟩,fun o2 f=>by
     by_cases q:a=W.ρ l
     ·exact .inr (.mk l o v q.symm)
     ·exact .inl ((if_neg q).symm.trans f)⟩⟩,O.dt_ok le.fz q.2 r (if_pos rfl)⟩
theorem CW {f l:Nat}{d:D}(h:CallOk c n f args hp (.ref l) hp2)(e:g9 l hp2=some d):CallOk c n f args hp (.dat d) (hp2.set l .gone):=
 ⟨h.fn,fun A W s vals z hv=>codeAny_mono (h.run A W s vals z hv) fun r s' q=>match q with
  |.mk u (.mk W' R' L x)=>match R'.freeze0 e with
   |⟨W2,R2,E2,y⟩=>.mk u (.mk W2 R2 ⟨L.e.trans E2,L.g,L.o⟩ ((show u=.ref (W'.ρ l)from x.2)▸y))⟩
noncomputable def Oj (f:Nat):(v:V)→(hp2:List O)→Rs V (fun v' hp'=>CallOk c n f args hp v hp2→CallOk c n f args hp v' hp')
 |.ref l,hp2=>match Nat.ble hp.length l with
  |true=>match e:g9 l hp2 with
   |some d=>⟨.dat d,hp2.set l .gone,true,fun _ h=>CW h e⟩
   |none=>⟨.ref l,hp2,true,fun _=>id⟩
  |false=>⟨.ref l,hp2,true,fun _=>id⟩
 |v,hp2=>⟨v,hp2,true,fun _=>id⟩
variable (tab:Tab c)(ih:Ev c)
noncomputable def xL:(n:Nat)→(f:Nat)→(args:List V)→(S:St)→Option (Out S V (CallOk c n f args S.hp))
 |0,_,_,_=>none
 |n+1,f,args,S=>tk (qA tab.l f) fun F e=>tk (yJ F args S.hp) fun p en=>bd (ih.x F.names n p.1 F.body ⟨p.2,S.hs,S.g,S.ob⟩) fun b=>tk (KY b.v) fun v rv=>
  let z:=Oj (c:=c) (n:=n+1) (hp:=S.hp) (args:=args) f v b.s.hp
  some ⟨z.v,b.s.up z.hp (p9 (Nat.ble args.length F.params.length) (p9 (Nat.ble F.params.length (args.length+F.dflt.length)) z.g)),fun h=>
   have h1:=St.up_ok h
   have h2:=jK h1.1
   have h3:=jK h2.2
   have q:=b.ok h1.2
   ⟨⟨q.1.g,q.1.ob⟩,z.ok h3.2 (tA (tab.ok f F (kK e)) h2.1 h3.1 en q.2 rv)⟩⟩
theorem tJ {m n f:Nat}{args:List V}{hp hp':List O}{v:V}(l:Nat.ble m n=true)(h:CallOk c m f args hp v hp'):CallOk c n f args hp v hp':=
 ⟨h.fn,fun A W s vals z hv=>h.run A W s vals (z.less (Nat.le_of_ble_eq_true l)) hv⟩
noncomputable def Ju (n f m:Nat)(σ:List Nat)(v:V)(hp':List O)(args:List V)(S:St)(r:List Hi):Out S V (CallOk c n f args S.hp):=
 ⟨v.ren (rn σ S.hp.length),⟨fO σ S.hp hp',r,p9 (Jj σ args S.hp) (p9 (Nat.ble m n) S.g),CallOk c m f (args.map (V.ren (kr σ))) (kept σ S.hp) v hp'∧S.ob⟩,fun h=>
  have h1:=jK h.g
  have h2:=jK h1.2
  ⟨⟨h2.2,h.ob.2⟩,mB h1.1 h2.1 h.ob.1⟩⟩
noncomputable def SX (n f:Nat)(σ:List Nat)(args:List V)(S:St)(r:List Hi):Option (Out S V (CallOk c n f args S.hp)):=
 bd (xL tab ih n f (args.map (V.ren (kr σ))) ⟨kept σ S.hp,r,S.g,S.ob⟩) fun a=>some ⟨a.v.ren (rn σ S.hp.length),a.s.up (fO σ S.hp a.s.hp) (Jj σ args S.hp),fun h=>
  have h1:=St.up_ok h
  have q:=a.ok h1.2
  ⟨⟨q.1.g,q.1.ob⟩,mB h1.1 (Nat.ble_eq_true_of_le (Nat.le_refl n)) q.2⟩⟩
noncomputable def Ld (n f:Nat)(args:List V)(S:St):Option (Out S V (CallOk c n f args S.hp)):=match S.hs with
 |.cal f' m σ v hp'::r=>match Nat.beq f' f with
  |true=>some (Ju n f m σ v hp' args S r)
  |false=>xL tab ih n f args S
 |.nxt m σ v hp'::r=>some (Ju n f m σ v hp' args S r)
 |.cll f' m v hp'::r=>match Nat.beq f' f with
  |true=>some ⟨v,⟨hp',r,p9 (Nat.ble m n) S.g,CallOk c m f args S.hp v hp'∧S.ob⟩,fun h=>
   have w:=jK h.g
   ⟨⟨w.2,h.ob.2⟩,tJ w.1 h.ob.1⟩⟩
  |false=>xL tab ih n f args S
 |.inl f' σ::r=>match Nat.beq f' f with
  |true=>SX tab ih n f σ args S r
  |false=>xL tab ih n f args S
 |_=>xL tab ih n f args S
theorem Le {i:String}{v:V}{b:Bi}(e:i=Gv b)(h:BT c n hp b args v hp2):GV c n hp (.blt i) args v hp2:=fun A W s fv vals z hf hv=>by
 subst e
 rw[show fv=.builtin (Gv b)from hf]
 exact⟨.blt _,h A W s vals z hv⟩
theorem Lf {t:String}{v:V}(h:TT c n hp t args v hp2):GV c n hp (.typ t) args v hp2:=fun A W s fv vals z hf hv=>by
 rw[show fv=.type t from hf]
 exact⟨.typ _,h A W s vals z hv⟩
noncomputable def Lg:(v:V)→Option (PLift (v=.dat .non))
 |.dat .non=>some ⟨rfl⟩
 |_=>none
noncomputable def Ol:(n:Nat)→(a:Nat)→(args:List V)→(S:St)→Option (Out S V (GV c n S.hp (.top a) args))
 |0,_,_,_=>none
 |n+1,a,args,S=>tk (yF c.G.cls a) fun cl e=>tk (lk cl.meths yQ) fun i e2=>bd (ih.call n i (.ref (S.hp.length+1)::args) ⟨S.hp++[.ns [],.ins a S.hp.length],S.hs,S.g,S.ob⟩) fun b=>bd (Lg b.v) fun w=>
  some ⟨.ref (S.hp.length+1),b.s,fun h=>have q:=b.ok h;⟨⟨q.1.g,q.1.ob⟩,Kk e e2 (w.down▸q.2)⟩⟩
noncomputable def SY (n:Nat)(f:V)(args:List V)(S:St):Option (Out S V (GV c n S.hp f args)):=match f with
 |.top a=>match yF c.G.cls a with
  |some _=>Ol ih n a args S
  |none=>bd (ih.call n a args S) fun b=>some ⟨b.v,b.s,fun h=>have q:=b.ok h;⟨q.1,OT q.2⟩⟩
 |.mth a l=>bd (ih.call n a (.ref l::args) S) fun b=>some ⟨b.v,b.s,fun h=>have q:=b.ok h;⟨q.1,Kj q.2⟩⟩
 |.blt i=>tk (Kl i) fun b e=>bd (UK c n S.hp b args) fun z=>some ⟨z.v,S.up z.hp z.g,fun h=>have q:=St.up_ok h;⟨q.2,Le (OU e) (z.ok q.1)⟩⟩
 |.typ t=>bd (SQ c n S.hp t args) fun z=>some ⟨z.v,S.up z.hp z.g,fun h=>have q:=St.up_ok h;⟨q.2,Lf (z.ok q.1)⟩⟩
 |_=>none
noncomputable def Om (n:Nat)(m:MC)(args:List V)(S:St):Option (Out S V (yT c n S.hp m args)):=match m with
 |.fn f l=>bd (ih.call n f (.ref l::args) S) fun b=>some ⟨b.v,b.s,fun h=>have q:=b.ok h;⟨q.1,OW q.2⟩⟩
 |.val v=>bd (ih.ap n v args S) fun b=>some ⟨b.v,b.s,fun h=>have q:=b.ok h;⟨q.1,Kp q.2⟩⟩
 |m=>match S.hs with
  |.bm v hp'::r=>some ⟨v,⟨hp',r,S.g,yT c n S.hp m args v hp'∧S.ob⟩,fun h=>⟨⟨h.g,h.ob.2⟩,h.ob.1⟩⟩
  |_=>bd (UM c n S.hp args m) fun z=>some ⟨z.v,S.up z.hp z.g,fun h=>have q:=St.up_ok h;⟨q.2,z.ok q.1⟩⟩
end
end
section
structure OpIs (o:Operator) where
 op:Op
 e:iQ op=o
noncomputable def Tn:(o:Operator)→Option (OpIs o)
 |.Add=>some ⟨.add,rfl⟩
 |.Sub=>some ⟨.sub,rfl⟩
 |.Mod=>some ⟨.mod,rfl⟩
 |.FloorDiv=>some ⟨.fdiv,rfl⟩
 |_=>none
structure CmIs (o:CmpOp) where
 op:Cm
 e:e9 op=o
noncomputable def SZ:(o:CmpOp)→CmIs o
 |.Eq=>⟨.eq,rfl⟩|.NotEq=>⟨.ne,rfl⟩|.Lt=>⟨.lt,rfl⟩|.LtE=>⟨.le,rfl⟩|.Gt=>⟨.gt,rfl⟩|.GtE=>⟨.ge,rfl⟩|.Is=>⟨.isn,rfl⟩|.IsNot=>⟨.isnotn,rfl⟩|.In=>⟨.isin,rfl⟩|.NotIn=>⟨.notin,rfl⟩
section
variable {c:Cx}{sc:aU}{n:Nat}{F:Fx}{hp hp1 hp2 hp3 hp4 hp5:List O}{p:Pos}{l r m x:Expr}{u v w:V}{b b':Bool}
theorem CX {o:Operator}{op:Op}(e:iQ op=o)(h1:RE c sc n F hp l u hp1)(h2:RE c sc n F hp1 r v hp2)(h3:bZ c n hp2 (binaryOp (iQ op)) c.VT u v w hp3):RE c sc n F hp (.BinOp l o r p) w hp3:=by subst e;exact HP h1 h2 h3
theorem Lh {o:CmpOp}{op:Cm}(e:e9 op=o)(hm:(!lastMarks [o] [x])=true)(h1:RE c sc n F hp r u hp1)(h2:RE c sc n F hp1 x v hp2)(h3:bZ c n hp2 (compareOp (e9 op)) tB u v b hp3):
  RE c sc n F hp (.Compare r [o] [x] p) (.dat (.boo b)) hp3∧RB c sc n F hp (.Compare r [o] [x] p) b hp3:=by
 subst e
 have hm:=(Bool.not_eq_true' _).mp hm
 exact⟨HT hm h1 h2 h3,HU hm h1 h2 h3⟩
theorem CY {o o':CmpOp}{op op':Cm}(e:e9 op=o)(e':e9 op'=o')(hm:(!lastMarks [o,o'] [m,x])=true)(h1:RE c sc n F hp r u hp1)(h2:RE c sc n F hp1 m v hp2)(h3:bZ c n hp2 (compareOp (e9 op)) tB u v b hp3)
  (h4:b=false→b'=false∧hp5=hp3)(h5:b=true→RE c sc n F hp3 x w hp4∧bZ c n hp4 (compareOp (e9 op')) tB v w b' hp5):
  RE c sc n F hp (.Compare r [o,o'] [m,x] p) (.dat (.boo b')) hp5∧RB c sc n F hp (.Compare r [o,o'] [m,x] p) b' hp5:=by
 subst e e'
 have hm:=(Bool.not_eq_true' _).mp hm
 exact⟨HV hm h1 h2 h3 h4 h5,HW hm h1 h2 h3 h4 h5⟩
end
section
variable {c:Cx}(tab:Tab c)(ih:Ev c)(sc:aU)(n:Nat)(F:Fx)
noncomputable def gd {α:Type}(b:Bool)(f:b=true→Option α):Option α:=match b,f with
 |true,f=>f rfl
 |false,_=>none
noncomputable def On (k:Nat)(p:Pos)(S:St):(v:Const)→Option (Out S V (RE c sc n F S.hp (.Constant v k p)))
 |.none=>some ⟨.dat .non,S,fun h=>⟨h,HC⟩⟩
 |.bool b=>some ⟨.dat (.boo b),S,fun h=>⟨h,HD⟩⟩
 |.int i=>some ⟨.dat (.int i),S,fun h=>⟨h,HE⟩⟩
 |.str t=>some ⟨.dat (.str t.cps.toList),S,fun h=>⟨h,HF⟩⟩
 |_=>none
theorem CZ {q:Str}(h:y7 sc q.cps.toList=some .free)(hc:(!nb q.cps.toList SV)=true):sc.lookup q=some .cell∨(sc.lookup q=some .free∧(q==("__classdict__" :Str))=false):=.inr ⟨iA h,Jr Oc ((Bool.not_eq_true' _).mp hc)⟩
noncomputable def Oo (q:Str)(p:Pos)(S:St):Option (Out S V (RE c sc n F S.hp (.Name q p))):=gd (!nb q.cps.toList Ob) fun d=>
 have d:=Jr LX ((Bool.not_eq_true' _).mp d)
 tk (y7 sc q.cps.toList) fun k e=>match k,e with
 |.local,e=>tk (AD F q.cps.toList S.hp) fun v e2=>some ⟨v,S,fun h=>⟨h,HG (iA e) d e2⟩⟩
 |.cell,e=>tk (Ge F q.cps.toList S.hp) fun v e2=>some ⟨v,S,fun h=>⟨h,yV (.inl (iA e)) d e2⟩⟩
 |.free,e=>gd (!nb q.cps.toList SV) fun hc=>tk (Ge F q.cps.toList S.hp) fun v e2=>some ⟨v,S,fun h=>⟨h,yV (CZ sc e hc) d e2⟩⟩
 |.globalImplicit,e=>tk (Gg c.G q.cps.toList) fun v e2=>some ⟨v,S,fun h=>⟨h,HH (iA e) d e2⟩⟩
 |_,_=>none
noncomputable def Oq (r:Expr)(a:Str)(p:Pos)(S:St):Option (Out S V (RE c sc n F S.hp (.Attribute r a p))):=gd (tI r) fun hb=>bd (ih.e sc n F r S) fun x=>bd (OP c n x.s.hp x.v a.cps.toList) fun z=>
 some ⟨z.v,x.s.up z.hp z.g,fun h=>have q:=St.up_ok h;have w:=x.ok q.2;⟨w.1,HI (fun env wh=>nJ hb a env wh) w.2 (z.ok q.1)⟩⟩
noncomputable def Ca:(rs:List Expr)→(S:St)→Option (Out S (List V) (Jo c sc n F S.hp rs))
 | [],S=>some ⟨[],S,fun h=>⟨h,HJ⟩⟩
 |r::rs,S=>bd (ih.e sc n F r S) fun x=>bd (Ca rs x.s) fun y=>some ⟨x.v::y.v,y.s,fun h=>have q:=y.ok h;have w:=x.ok q.1;⟨w.1,Bf w.2 q.2⟩⟩
noncomputable def Os (g:Expr)(rs:List Expr)(p:Pos)(S:St):Option (Out S V (RE c sc n F S.hp (.Call g rs [] p))):=gd (y8 g) fun h1=>gd (rs.all fC) fun h2=>bd (ih.e sc n F g S) fun x=>bd (Ca ih sc n F rs x.s) fun y=>bd (ih.ap n x.v y.v y.s) fun z=>
 some ⟨z.v,z.s,fun h=>have q:=z.ok h;have w:=y.ok q.1;have t:=x.ok w.1;⟨t.1,HK h2 (LZ h1) t.2 w.2 q.2⟩⟩
noncomputable def Ot (r:Expr)(a:Str)(ap:Pos)(rs:List Expr)(p:Pos)(S:St):Option (Out S V (RE c sc n F S.hp (.Call (.Attribute r a ap) rs [] p))):=gd (tI r) fun hb=>gd (rs.all fC) fun h2=>gd (Nat.blt rs.length 30) fun h3=>gd (ap.endLine==p.line) fun h4=>
 bd (ih.e sc n F r S) fun x=>bd (SR c n x.s.hp x.v a.cps.toList) fun m=>bd (Ca ih sc n F rs (x.s.up m.hp m.g)) fun y=>bd (Om ih n m.v y.v y.s) fun z=>
 some ⟨z.v,z.s,fun h=>have q:=z.ok h;have w:=y.ok q.1;have u:=St.up_ok w.1;have t:=x.ok u.2;⟨t.1,HL h2 (Nat.le_of_ble_eq_true h3) h4 (fun env wh=>nJ hb a env wh) t.2 (m.ok u.1) w.2 q.2⟩⟩
structure StrIs (v:V) where
 x:Nm
 e:v=.dat (.str x)
noncomputable def Ou:(v:V)→Option (StrIs v)
 |.dat (.str x)=>some ⟨x,rfl⟩
 |_=>none
theorem Ov {v:V}{x:Nm}(e:v=.dat (.str x)):v=.dat (.str (st x).cps.toList):=e
noncomputable def Ow (r:Expr)(a:Str)(ap:Pos)(ya:Str)(ka:Nat)(pa:Pos)(yb:Str)(kb:Nat)(pb:Pos)(p:Pos)(S:St):Option (Out S V (RE c sc n F S.hp (.Call (.Attribute r a ap) [.Constant (.str ya) ka pa,.Constant (.str yb) kb pb] [] p))):=
 gd (nb a.cps.toList LV) fun ha=>gd (tI r) fun hb=>gd (ap.endLine==p.line) fun h4=>gd (!nb ya.cps.toList yb.cps.toList) fun g1=>gd (wX ya.cps.toList) fun g2=>gd (Nat.ble yb.cps.toList.length 14) fun g4=>bd (ih.e sc n F r S) fun x=>bd (Ou x.v) fun w=>
 some ⟨.dat (.str (dL ya.cps.toList yb.cps.toList 0 w.x)),x.s.up x.s.hp (Nat.ble w.x.length lim),fun h=>have q:=St.up_ok h;have t:=x.ok q.2;⟨t.1,Od LY ha▸Hd (t:=st w.x) h4 (fun env wh=>nJ hb "replace" env wh) (Ov w.e▸t.2) ((Bool.not_eq_true' _).mp g1) g2 q.1 g4⟩⟩
noncomputable def Ox (g:Expr)(rs:List Expr)(p:Pos)(S:St):Option (Out S V (RE c sc n F S.hp (.Call g rs [] p))):=match g with
 |.Attribute r a ap=>match nb a.cps.toList LV with
  |true=>match rs with
   | [.Constant (.str ya) ka pa,.Constant (.str yb) kb pb]=>Ow ih sc n F r a ap ya ka pa yb kb pb p S
   |_=>none
  |false=>Ot ih sc n F r a ap rs p S
 |g=>Os ih sc n F g rs p S
noncomputable def Cb (S:St):(r:Option Expr)→Option (Out S V (RP c sc n F S.hp r))
 |none=>some ⟨.dat .non,S,fun h=>⟨h,Kq⟩⟩
 |some r=>bd (ih.e sc n F r S) fun x=>some ⟨x.v,x.s,fun h=>have q:=x.ok h;⟨q.1,Kr q.2⟩⟩
noncomputable def Oy (p:Pos)(o i:V)(S:St):Option (Out S V (bZ c n S.hp getItem c.VT o i)):=
 let usual:Option (Out S V (bZ c n S.hp getItem c.VT o i)):=bd (OS c n S.hp o i) fun z=>some ⟨z.v,S.up z.hp z.g,fun h=>have q:=St.up_ok h;⟨q.2,z.ok q.1⟩⟩
 match S.hs with
 |.sub k v::r=>match at_ p k with
  |true=>some ⟨v,⟨S.hp,r,S.g,(∀ hp,bZ c n hp getItem c.VT o i v hp)∧S.ob⟩,fun h=>⟨⟨h.g,h.ob.2⟩,h.ob.1 _⟩⟩
  |false=>usual
 |.itm k v::r=>match at_ p k with
  |true=>some ⟨v,⟨S.hp,r,S.g,bZ c n S.hp getItem c.VT o i v S.hp∧S.ob⟩,fun h=>⟨⟨h.g,h.ob.2⟩,h.ob.1⟩⟩
  |false=>usual
 |_=>usual
noncomputable def Oz (r x:Expr)(p:Pos)(S:St):Option (Out S V (RE c sc n F S.hp (.Subscript r x p))):=match x with
 |.Slice ol oh none ap=>bd (ih.e sc n F r S) fun a=>bd (Cb ih sc n F a.s ol) fun b=>bd (Cb ih sc n F b.s oh) fun d=>gd (mD a.v d.s.hp) fun hi=>bd (SU c n d.s.hp a.v b.v d.v) fun z=>
  some ⟨z.v,d.s.up z.hp z.g,fun h=>have q:=St.up_ok h;have w:=d.ok q.2;have t:=b.ok w.1;have u:=a.ok t.1;⟨u.1,HN u.2 t.2 w.2 hi (z.ok q.1)⟩⟩
 |x=>gd (kI x) fun hn=>bd (ih.e sc n F r S) fun a=>bd (ih.e sc n F x a.s) fun b=>gd (mD a.v b.s.hp) fun hi=>bd (Oy n p a.v b.v b.s) fun z=>
  some ⟨z.v,z.s,fun h=>have q:=z.ok h;have w:=b.ok q.1;have t:=a.ok w.1;⟨t.1,HM hn t.2 w.2 hi q.2⟩⟩
noncomputable def PA (l:Expr)(o:Operator)(r:Expr)(p:Pos)(S:St):Option (Out S V (RE c sc n F S.hp (.BinOp l o r p))):=bd (Tn o) fun k=>bd (ih.e sc n F l S) fun a=>bd (ih.e sc n F r a.s) fun b=>bd (SN c n b.s.hp k.op a.v b.v) fun z=>
 some ⟨z.v,b.s.up z.hp z.g,fun h=>have q:=St.up_ok h;have w:=b.ok q.2;have t:=a.ok w.1;⟨t.1,CX k.e t.2 w.2 (z.ok q.1)⟩⟩
structure IntIs (v:V) where
 x:Nat
 e:v=.dat (.int x)
noncomputable def PB:(v:V)→Option (IntIs v)
 |.dat (.int (.ofNat x))=>some ⟨x,rfl⟩
 |_=>none
noncomputable def PC (o:UnaryOp)(r:Expr)(p:Pos)(S:St):Option (Out S V (RE c sc n F S.hp (.UnaryOp o r p))):=bd (ih.e sc n F r S) fun a=>match o with
 |.Not=>bd (Kg c n a.s.hp a.v) fun z=>some ⟨.dat (.boo !z.v),a.s.up z.hp z.g,fun h=>have q:=St.up_ok h;have t:=a.ok q.2;⟨t.1,HZ t.2 (z.ok q.1)⟩⟩
 |.USub=>bd (PB a.v) fun w=>some ⟨.dat (.int (-(w.x:Int))),a.s,fun h=>have t:=a.ok h;⟨t.1,HO (w.e▸t.2)⟩⟩
 |_=>none
noncomputable def PD (rs:List Expr)(p:Pos)(S:St):Option (Out S V (RE c sc n F S.hp (.List rs p))):=gd (rs.all fC) fun h2=>bd (Ca ih sc n F rs S) fun y=>
 some ⟨.ref y.s.hp.length,y.s.up (y.s.hp++[.lst y.v]) (Nat.ble y.v.length lim),fun h=>have q:=St.up_ok h;have w:=y.ok q.2;⟨w.1,HQ h2 w.2 q.1⟩⟩
noncomputable def PE (rs:List Expr)(k:Nat)(p:Pos)(S:St):Option (Out S V (RE c sc n F S.hp (.Tuple rs k p))):=gd (rs.all fC) fun h2=>bd (Ca ih sc n F rs S) fun y=>
 some ⟨(xB y.v y.s.hp).1,y.s.up (xB y.v y.s.hp).2 (Nat.ble y.v.length lim),fun h=>have q:=St.up_ok h;have w:=y.ok q.2;⟨w.1,HS h2 w.2 q.1⟩⟩
noncomputable def Sa (p:Pos)(op:Cm)(a b:V)(S:St):Option (Out S Bool (bZ c n S.hp (compareOp (e9 op)) tB a b)):=
 let usual:Option (Out S Bool (bZ c n S.hp (compareOp (e9 op)) tB a b)):=bd (wW c n S.hp op a b) fun z=>some ⟨z.v,S.up z.hp z.g,fun h=>have q:=St.up_ok h;⟨q.2,z.ok q.1⟩⟩
 match S.hs with
 |.cmp k t::r=>match at_ p k with
  |true=>some ⟨t,⟨S.hp,r,S.g,(∀ hp,bZ c n hp (compareOp (e9 op)) tB a b t hp)∧S.ob⟩,fun h=>⟨⟨h.g,h.ob.2⟩,h.ob.1 _⟩⟩
  |false=>usual
 |_=>usual
noncomputable def PF (r:Expr)(o:CmpOp)(x:Expr)(p:Pos)(S:St):Option (Out S Bool (fun b hp'=>RE c sc n F S.hp (.Compare r [o] [x] p) (.dat (.boo b)) hp'∧RB c sc n F S.hp (.Compare r [o] [x] p) b hp')):=let k:=SZ o
 gd (!lastMarks [o] [x]) fun hm=>bd (ih.e sc n F r S) fun a=>bd (ih.e sc n F x a.s) fun b=>bd (Sa n p k.op a.v b.v b.s) fun z=>
 some ⟨z.v,z.s,fun h=>have q:=z.ok h;have w:=b.ok q.1;have t:=a.ok w.1;⟨t.1,Lh k.e hm t.2 w.2 q.2⟩⟩
noncomputable def PG (r:Expr)(o o':CmpOp)(m x:Expr)(p:Pos)(S:St):Option (Out S Bool (fun b hp'=>RE c sc n F S.hp (.Compare r [o,o'] [m,x] p) (.dat (.boo b)) hp'∧RB c sc n F S.hp (.Compare r [o,o'] [m,x] p) b hp')):=let k:=SZ o;let k':=SZ o'
 gd (!lastMarks [o,o'] [m,x]) fun hm=>bd (ih.e sc n F r S) fun a=>bd (ih.e sc n F m a.s) fun b=>bd (wW c n b.s.hp k.op a.v b.v) fun z=>let z':=CU (S:=b.s) (U:=bZ c n b.s.hp (compareOp (e9 k.op)) tB a.v b.v) r.pos ⟨z.v,b.s.up z.hp z.g,fun h=>have q:=St.up_ok h;⟨q.2,z.ok q.1⟩⟩
 match z' with
 |⟨false,s,ok⟩=>some ⟨false,s,fun h=>have q:=ok h;have w:=b.ok q.1;have t:=a.ok w.1;⟨t.1,CY k.e k'.e hm t.2 w.2 q.2 (fun _=>⟨rfl,rfl⟩) (w:=.dat .non) (hp4:=s.hp) nofun⟩⟩
 |⟨true,s,ok⟩=>bd (ih.e sc n F x s) fun d=>bd (wW c n d.s.hp k'.op b.v d.v) fun y=>some ⟨y.v,d.s.up y.hp y.g,fun h=>have q:=St.up_ok h;have u:=d.ok q.2;have q':=ok u.1;have w:=b.ok q'.1;have t:=a.ok w.1;⟨t.1,CY k.e k'.e hm t.2 w.2 q'.2 nofun fun _=>⟨u.2,y.ok q.1⟩⟩⟩
noncomputable def Jv (r:Expr)(os:List CmpOp)(xs:List Expr)(p:Pos)(S:St):Option (Out S Bool (fun b hp'=>RE c sc n F S.hp (.Compare r os xs p) (.dat (.boo b)) hp'∧RB c sc n F S.hp (.Compare r os xs p) b hp')):=match os,xs with
 | [o],[x]=>PF ih sc n F r o x p S
 | [o,o'],[m,x]=>PG ih sc n F r o o' m x p S
 |_,_=>none
noncomputable def Jw (op:BoolOp)(p:Pos):(rs:List Expr)→(S:St)→Option (Out S V (RA c sc n F S.hp op p rs))
 | [],_=>none
 |r::rs,S=>match rs with
  | []=>bd (ih.e sc n F r S) fun a=>some ⟨a.v,a.s,fun h=>have q:=a.ok h;⟨q.1,Ks q.2⟩⟩
  |x::rs=>bd (ih.e sc n F r S) fun a=>bd (Kg c n a.s.hp a.v) fun z=>let z':=CU (S:=a.s) (U:=BK c n a.s.hp truthy BJ a.v) r.pos ⟨z.v,a.s.up z.hp z.g,fun h=>have q:=St.up_ok h;⟨q.2,z.ok q.1⟩⟩
   match e:GS z'.v (lL op)with
   |true=>some ⟨a.v,z'.s,fun h=>have q:=z'.ok h;have t:=a.ok q.1;⟨t.1,Bk t.2 q.2 (fun _=>⟨rfl,rfl⟩) fun e'=>by
     rw[e',← lQ]at e
     cases op <;>cases e⟩⟩
   |false=>bd (Jw op p (x::rs) z'.s) fun y=>some ⟨y.v,y.s,fun h=>have w:=y.ok h;have q:=z'.ok w.1;have t:=a.ok q.1;⟨t.1,Bk t.2 q.2 (fun e'=>by
     rw[e',← lQ]at e
     cases op <;>cases e) fun _=>w.2⟩⟩
noncomputable def Jx (op:BoolOp):(rs:List Expr)→(S:St)→Option (Out S Bool (RL c sc n F S.hp op rs))
 | [],S=>some ⟨!lL op,S,fun h=>⟨h,Kt⟩⟩
 |r::rs,S=>bd (ih.t sc n F r S) fun a=>match e:GS a.v (lL op)with
   |true=>some ⟨a.v,a.s,fun h=>have t:=a.ok h;⟨t.1,Bl t.2 (fun _=>⟨rfl,rfl⟩) fun e'=>by
     rw[e',← lQ]at e
     cases op <;>cases e⟩⟩
   |false=>bd (Jx op rs a.s) fun y=>some ⟨y.v,y.s,fun h=>have w:=y.ok h;have t:=a.ok w.1;⟨t.1,Bl t.2 (fun e'=>by
     rw[e',← lQ]at e
     cases op <;>cases e) fun _=>w.2⟩⟩
noncomputable def PH (r l x:Expr)(p:Pos)(S:St):Option (Out S V (RE c sc n F S.hp (.IfExp r l x p))):=bd (ih.t sc n F r S) fun a=>match a with
 |⟨true,s,ok⟩=>bd (ih.e sc n F l s) fun y=>some ⟨y.v,y.s,fun h=>have w:=y.ok h;have t:=ok w.1;⟨t.1,yY t.2 (fun _=>w.2) nofun⟩⟩
 |⟨false,s,ok⟩=>bd (ih.e sc n F x s) fun y=>some ⟨y.v,y.s,fun h=>have w:=y.ok h;have t:=ok w.1;⟨t.1,yY t.2 nofun fun _=>w.2⟩⟩
structure Dis (S:St) (R:List Nm→List V→List O→Prop) where
 ks:List Nm
 vs:List V
 s:St
 ok:s.Ok→S.Ok∧R ks vs s.hp
noncomputable def PI (p:Pos):(keys:List (Option Expr))→(rs:List Expr)→(S:St)→Option (Dis S (fun ks vs hp'=>RD c sc n F S.hp p ks keys rs vs hp'))
 | [],rs,S=>match rs with
  | []=>some ⟨[],[],S,fun h=>⟨h,Ku⟩⟩
  |_=>none
 |k::keys,rs,S=>match k,rs with
  |some (.Constant (.str t) j ap),r::rs=>bd (ih.e sc n F r S) fun x=>bd (PI p keys rs x.s) fun y=>some ⟨t.cps.toList::y.ks,x.v::y.vs,y.s,fun h=>have q:=y.ok h;have w:=x.ok q.1;⟨w.1,Kv w.2 q.2⟩⟩
  |_,_=>none
noncomputable def PJ:(es:List (Nm×V))→Option (PLift (es=[]))
 | []=>some ⟨rfl⟩
 |_=>none
noncomputable def PM (keys:List (Option Expr))(rs:List Expr)(p:Pos)(S:St):Option (Out S V (RE c sc n F S.hp (.Dict keys rs p))):=gd (keys.all (·.isSome)&&(Nat.beq keys.length rs.length&&(wX keys&&Nat.ble keys.length 15))) fun g=>
 bd (PI ih sc n F p keys rs ⟨S.hp++[.ns []],S.hs,S.g,S.ob⟩) fun y=>tk (y.s.hp[S.hp.length]?.bind O.nsE) fun es e=>bd (PJ es) fun w=>
 some ⟨.ref S.hp.length,y.s.up (y.s.hp.set S.hp.length (.ns (rT y.ks y.vs []))) true,fun h=>have q:=St.up_ok h;have t:=y.ok q.2;⟨⟨t.1.g,t.1.ob⟩,He g t.2 (w.down▸e)⟩⟩
end
end
section
section
variable {c:Cx}{sc:aU}{n:Nat}{F:Fx}{hp hp1 hp2 hp3 hp4 hp5 hp6:List O}{p px:Pos}{l r x:Expr}{u v w y:V}{q:Str}{o:Operator}{op:Op}
theorem Hs (e:iQ op=o)(hk:sc.lookup q=some .local)(e1:AD F q.cps.toList hp=some u)(h2:RE c sc n F hp r w hp1)(h3:bZ c n hp1 (inplaceOp (iQ op)) c.VT u w v hp2)(e2:lO F q.cps.toList v hp2=some hp3):RS c sc n F hp (.AugAssign (.Name q px) o r p) .next hp3:=by
 subst e;exact LN hk e1 h2 h3 e2
theorem Ht (e:iQ op=o)(h1:RE c sc n F hp l y hp1)(h2:∀ e,BK c n hp1 (fun u=>getAttr u (st q.cps.toList) e) c.VT y u hp2)(h3:RE c sc n F hp2 r w hp3)(h4:bZ c n hp3 (inplaceOp (iQ op)) c.VT u w v hp4)(h5:bZ c n hp4 (fun u w=>setAttr u (st q.cps.toList) w) u8 y v () hp5):
  RS c sc n F hp (.AugAssign (.Attribute l q px) o r p) .next hp5:=by subst e;exact LO h1 h2 h3 h4 h5
theorem Hu (e:iQ op=o)(hn:kI x=true)(h1:RE c sc n F hp l y hp1)(h2:RE c sc n F hp1 x w hp2)(h3:bZ c n hp2 getItem c.VT y w u hp3)(h4:RE c sc n F hp3 r v hp4){v':V}(h5:bZ c n hp4 (inplaceOp (iQ op)) c.VT u v v' hp5)(h6:LI c n hp5 y w v' hp6):
  RS c sc n F hp (.AugAssign (.Subscript l x px) o r p) .next hp6:=by subst e;exact LR hn h1 h2 h3 h4 h5 h6
theorem Hv:RS c sc n F hp (.Return none p) (.ret (.dat .non)) hp:=fun _ _ _ _ z=>wpAny_Return_none (.here z.a ⟨.none,rfl,rfl⟩)
end
noncomputable def Hw:Nat:=4000
inductive FlIs (fl:Fl):Type where
 |on (h:fl.on=true)
 |out (fl':Fl) (h:fl.stp=some fl')
noncomputable def PN:(fl:Fl)→FlIs fl
 |.next=>.on rfl
 |.cont=>.on rfl
 |.brk=>.out .next rfl
 |.ret v=>.out (.ret v) rfl
inductive GoIs (fl:Fl):Type where
 |on (h:fl=.next)
 |out (h:fl.goes=false)
noncomputable def Sb:(fl:Fl)→GoIs fl
 |.next=>.on rfl
 |.cont=>.out rfl
 |.brk=>.out rfl
 |.ret _=>.out rfl
section
variable {c:Cx}(tab:Tab c)(ih:Ev c)(sc:aU)(n:Nat)(F:Fx)
noncomputable def PO:(rs:List Expr)→(vs:List V)→(S:St)→Option (Out S Unit (fun _ hp'=>Oa c sc n F S.hp rs vs hp'))
 | [],vs,S=>match vs with
  | []=>some ⟨(),S,fun h=>⟨h,LJ⟩⟩
  |_=>none
 |r::rs,vs,S=>match vs with
  |v::vs=>bd (ih.g sc n F r v S) fun a=>bd (PO rs vs a.s) fun b=>some ⟨(),b.s,fun h=>have q:=b.ok h;have t:=a.ok q.1;⟨t.1,Hg t.2 q.2⟩⟩
  | []=>none
noncomputable def UP (g:Expr)(v:V)(S:St):Option (Out S Unit (fun _ hp'=>RG c sc n F S.hp g v hp')):=match g with
 |.Name q p=>tk (y7 sc q.cps.toList) fun k e=>match k,e with
  |.local,e=>tk (lO F q.cps.toList v S.hp) fun hp' e2=>some ⟨(),S.up hp' true,fun h=>have w:=St.up_ok h;⟨w.2,cM (iA e) e2⟩⟩
  |.cell,e=>tk (Gf F q.cps.toList v S.hp) fun hp' e2=>some ⟨(),S.up hp' true,fun h=>have w:=St.up_ok h;⟨w.2,LG (iA e) e2⟩⟩
  |_,_=>none
 |.Attribute r q p=>bd (ih.e sc n F r S) fun a=>bd (OQ c n a.s.hp a.v q.cps.toList v) fun z=>some ⟨(),a.s.up z.hp z.g,fun h=>have w:=St.up_ok h;have t:=a.ok w.2;⟨t.1,LH t.2 (z.ok w.1)⟩⟩
 |.Subscript r x p=>bd (ih.e sc n F r S) fun a=>bd (ih.e sc n F x a.s) fun b=>match b.s.hs with
  |.set hp'::q=>some ⟨(),⟨hp',q,b.s.g,LI c n b.s.hp a.v b.v v hp'∧b.s.ob⟩,fun h=>have u:=b.ok ⟨h.g,h.ob.2⟩;have t:=a.ok u.1;⟨t.1,Bo t.2 u.2 h.ob.1⟩⟩
  |_=>bd (Ki c n b.s.hp a.v b.v v) fun z=>some ⟨(),b.s.up z.hp z.g,fun h=>have w:=St.up_ok h;have u:=b.ok w.2;have t:=a.ok u.1;⟨t.1,Bo t.2 u.2 (z.ok w.1)⟩⟩
 |.Tuple rs k p=>gd (rs.all fC) fun hn=>tk (iP v S.hp) fun vs e=>gd (Nat.beq vs.length rs.length) fun hl=>bd (PO ih sc n F rs vs S) fun a=>some ⟨(),a.s,fun h=>have t:=a.ok h;⟨t.1,LK hn hl e t.2⟩⟩
 |_=>none
noncomputable def To (t:Expr)(body:List Stmt)(base:Nat):(m:Nat)→(S:St)→Option (Out S Fl (fun fl hp'=>WhlR c sc n F t body base m S.hp fl hp'))
 |0,_=>none
 |m+1,S=>bd (ih.t sc n F t S) fun a=>match a with
  |⟨false,s,ok⟩=>some ⟨.next,s,fun h=>have q:=ok h;⟨q.1,.stop q.2⟩⟩
  |⟨true,s,ok⟩=>bd (ih.x sc n F body s) fun b=>match PN b.v with
   |.on o=>bd (To t body base m b.s) fun d=>some ⟨d.v,d.s,fun h=>have w:=d.ok h;have u:=b.ok w.1;have q:=ok u.1;⟨q.1,.turn q.2 u.2 o .id w.2⟩⟩
   |.out fl' o=>some ⟨fl',b.s,fun h=>have u:=b.ok h;have q:=ok u.1;⟨q.1,.out q.2 u.2 o⟩⟩
noncomputable def Tp (g:Expr)(body:List Stmt)(base:Nat)(v:V):(m k:Nat)→(S:St)→Option (Out S Fl (fun fl hp'=>ForR c sc n F g body base v m k S.hp fl hp'))
 |0,_,_=>none
 |m+1,k,S=>tk (e8 v S.hp) fun all e=>GP (all[k]?) (fun y x=>bd (ih.g sc n F g y S) fun a=>bd (ih.x sc n F body a.s) fun b=>match PN b.v with
   |.on o=>bd (Tp g body base v m (k+1) b.s) fun d=>some ⟨d.v,d.s,fun h=>have w:=d.ok h;have u:=b.ok w.1;have q:=a.ok u.1;⟨q.1,.turn e x q.2 u.2 o .id w.2⟩⟩
   |.out fl' o=>some ⟨fl',b.s,fun h=>have u:=b.ok h;have q:=a.ok u.1;⟨q.1,.out e x q.2 u.2 o⟩⟩)
  fun x=>some ⟨.next,S,fun h=>⟨h,.stop e x⟩⟩
noncomputable def Sc (g r:Expr)(L:Nat)(v:V):(m k:Nat)→(S:St)→Option (Out S Unit (fun _ hp'=>ComR c sc n F g r L v m k S.hp hp'))
 |0,_,_=>none
 |m+1,k,S=>tk (e8 v S.hp) fun all e=>GP (all[k]?) (fun y x=>bd (ih.g sc n F g y S) fun a=>bd (ih.e sc n F r a.s) fun b=>tk (b.s.hp[L]?.bind O.lstE) fun xs el=>
   bd (Sc g r L v m (k+1) (b.s.up (b.s.hp.set L (.lst (xs++[b.v]))) (Nat.ble xs.length lim))) fun d=>some ⟨(),d.s,fun h=>have w:=d.ok h;have o:=St.up_ok w.1;have u:=b.ok o.2;have q:=a.ok u.1;⟨q.1,.turn e x q.2 u.2 el o.1 w.2⟩⟩)
  fun x=>some ⟨(),S,fun h=>⟨h,.stop e x⟩⟩
noncomputable def PP (re:Expr)(gs:List Comprehension)(scope:Scope)(pos:Pos)(S:St):Option (Out S V (RE c sc n F S.hp (.ListComp re gs scope pos))):=match gs with
 | [⟨rt,ri,[],0⟩]=>gd (La scope ri F.cs) fun ok=>bd (ih.e sc n F ri S) fun a=>gd (vJ a.v) fun hr=>gd (e8 a.v a.s.hp).isSome fun hi=>
  bd (Sc ih (fQ sc scope.names) n ⟨a.s.hp.length+1,eX F.cs (cW scope.names)⟩ rt re a.s.hp.length a.v Hw 0 ⟨a.s.hp++[.lst [],.fr []],a.s.hs,a.s.g,a.s.ob⟩) fun b=>tk (b.s.hp[a.s.hp.length+1]?.bind O.frE) fun es e=>
  some ⟨.ref a.s.hp.length,b.s.up (b.s.hp.set (a.s.hp.length+1) .gone) true,fun h=>have o:=St.up_ok h;have u:=b.ok o.2;have q:=a.ok ⟨u.1.g,u.1.ob⟩;⟨q.1,mJ (fR ok) q.2 hr hi u.2 e⟩⟩
 |_=>none
noncomputable def PQ (y:Str)(px:Pos)(re:Expr)(gs:List Comprehension)(scope:Scope)(pos p:Pos)(S:St):Option (Out S Fl (RS c sc n F S.hp (.Assign [.Name y px] (.ListComp re gs scope pos) p))):=match gs with
 | [⟨rt,ri,[],0⟩]=>gd (La scope ri F.cs) fun ok=>gd (tH sc y px (.ListComp re [⟨rt,ri,[],0⟩] scope pos)) fun hw=>gd (iK (y7 sc y.cps.toList)) fun hk=>bd (ih.e sc n F ri S) fun a=>gd (vJ a.v) fun hr=>gd (e8 a.v a.s.hp).isSome fun hi=>
  bd (Sc ih (fQ sc scope.names) n ⟨a.s.hp.length+1,eX F.cs (cW scope.names)⟩ rt re a.s.hp.length a.v Hw 0 ⟨a.s.hp++[.lst [],.fr []],a.s.hs,a.s.g,a.s.ob⟩) fun b=>tk (lO F y.cps.toList (.ref a.s.hp.length) b.s.hp) fun hp3 t=>tk (hp3[a.s.hp.length+1]?.bind O.frE) fun es e=>
  some ⟨.next,b.s.up (hp3.set (a.s.hp.length+1) .gone) true,fun h=>have o:=St.up_ok h;have u:=b.ok o.2;have q:=a.ok ⟨u.1.g,u.1.ob⟩;⟨q.1,nI (fR ok) q.2 hr hi u.2 hw (iA (iB hk)) t e⟩⟩
 |_=>none
noncomputable def PS:(vs:List V)→Option ((v1:V)×(v2:V)×PLift (vs=[v1,v2]))
 | [v1,v2]=>some ⟨v1,v2,⟨rfl⟩⟩
 |_=>none
noncomputable def PT (a:Str)(pa:Pos)(b:Str)(pb:Pos)(k:Nat)(p:Pos)(x y:Expr)(k':Nat)(p' pos:Pos)(S:St):Option (Out S Fl (RS c sc n F S.hp (.Assign [.Tuple [.Name a pa,.Name b pb] k p] (.Tuple [x,y] k' p') pos))):=
 gd (iK (y7 sc a.cps.toList)) fun ha=>gd (iK (y7 sc b.cps.toList)) fun hb=>bd (ih.e sc n F (.Tuple [x,y] k' p') S) fun d=>tk (iP d.v d.s.hp) fun vs e=>bd (PS vs) fun w=>tk (lO F b.cps.toList w.2.1 d.s.hp) fun hp2 t1=>tk (lO F a.cps.toList w.1 hp2) fun hp3 t2=>
 some ⟨.next,⟨hp3,d.s.hs,d.s.g,Hq sc (.Assign [.Tuple [.Name a pa,.Name b pb] k p] (.Tuple [x,y] k' p') pos)=Hr a b∧d.s.ob⟩,fun h=>have q:=d.ok ⟨h.g,h.ob.2⟩;⟨q.1,Lb ha hb h.ob.1 q.2 (w.2.2.down▸e) t1 t2⟩⟩
noncomputable def PU (g r:Expr)(p:Pos)(S:St):Option (Out S Fl (RS c sc n F S.hp (.Assign [g] r p))):=match SW sc g r with
 |.plain hs=>gd (fC g&&mF r) fun h0=>bd (ih.e sc n F r S) fun a=>bd (ih.g sc n F g a.v a.s) fun b=>some ⟨.next,b.s,fun h=>have q:=b.ok h;have t:=a.ok q.1;⟨t.1,LM h0 hs t.2 q.2⟩⟩
 |.no=>match g,r with
  |.Tuple [.Name a pa,.Name b pb] k p1,.Tuple [x,y] k' p'=>PT ih sc n F a pa b pb k p1 x y k' p' p S
  |_,_=>none
noncomputable def PV (g r:Expr)(p:Pos)(S:St):Option (Out S Fl (RS c sc n F S.hp (.Assign [g] r p))):=match r with
 |.ListComp re gs scope pos=>match g with
  |.Name y px=>PQ ih sc n F y px re gs scope pos p S
  |_=>none
 |r=>PU ih sc n F g r p S
noncomputable def PY (g:Expr)(o:Operator)(r:Expr)(p:Pos)(S:St):Option (Out S Fl (RS c sc n F S.hp (.AugAssign g o r p))):=bd (Tn o) fun k=>match g with
 |.Name q px=>gd (iK (y7 sc q.cps.toList)) fun hk=>tk (AD F q.cps.toList S.hp) fun u e=>bd (ih.e sc n F r S) fun b=>bd (Kh c n b.s.hp k.op u b.v) fun z=>tk (lO F q.cps.toList z.v z.hp) fun hp3 t=>
  some ⟨.next,b.s.up hp3 z.g,fun h=>have w:=St.up_ok h;have q':=b.ok w.2;⟨q'.1,Hs k.e (iA (iB hk)) e q'.2 (z.ok w.1) t⟩⟩
 |.Attribute l q px=>bd (ih.e sc n F l S) fun a=>bd (OP c n a.s.hp a.v q.cps.toList) fun x=>bd (ih.e sc n F r (a.s.up x.hp x.g)) fun b=>bd (Kh c n b.s.hp k.op x.v b.v) fun z=>bd (OQ c n z.hp a.v q.cps.toList z.v) fun y=>
  some ⟨.next,(b.s.up z.hp z.g).up y.hp y.g,fun h=>have w:=St.up_ok h;have w1:=St.up_ok w.2;have q':=b.ok w1.2;have u:=St.up_ok q'.1;have t:=a.ok u.2;⟨t.1,Ht k.e t.2 (x.ok u.1) q'.2 (z.ok w1.1) (y.ok w.1)⟩⟩
 |.Subscript l x px=>gd (kI x) fun hn=>bd (ih.e sc n F l S) fun a=>bd (ih.e sc n F x a.s) fun i=>bd (OS c n i.s.hp a.v i.v) fun d=>bd (ih.e sc n F r (i.s.up d.hp d.g)) fun b=>bd (Kh c n b.s.hp k.op d.v b.v) fun z=>bd (Ki c n z.hp a.v i.v z.v) fun y=>
  some ⟨.next,(b.s.up z.hp z.g).up y.hp y.g,fun h=>have w:=St.up_ok h;have w1:=St.up_ok w.2;have q':=b.ok w1.2;have u:=St.up_ok q'.1;have j:=i.ok u.2;have t:=a.ok j.1;⟨t.1,Hu k.e hn t.2 j.2 (d.ok u.1) q'.2 (z.ok w1.1) (y.ok w.1)⟩⟩
 |_=>none
noncomputable def Sd (r:Expr)(ts ts2:List Stmt)(p:Pos)(S:St):Option (Out S Fl (RS c sc n F S.hp (.If r ts ts2 p))):=bd (ih.t sc n F r S) fun a=>match a with
 |⟨true,s,ok⟩=>bd (ih.x sc n F ts s) fun y=>some ⟨y.v,y.s,fun h=>have w:=y.ok h;have t:=ok w.1;⟨t.1,Bn t.2 (fun _=>w.2) nofun⟩⟩
 |⟨false,s,ok⟩=>bd (ih.x sc n F ts2 s) fun y=>some ⟨y.v,y.s,fun h=>have w:=y.ok h;have t:=ok w.1;⟨t.1,Bn t.2 nofun fun _=>w.2⟩⟩
noncomputable def PZ (g i:Expr)(body:List Stmt)(p:Pos)(S:St):Option (Out S Fl (RS c sc n F S.hp (.For g i body [] p))):=match g with
 |.Name y px=>gd (nK i) fun hf=>bd (ih.e sc n F i S) fun a=>gd (vJ a.v) fun hr=>gd (e8 a.v a.s.hp).isSome fun hi=>bd (Tp ih sc n F (.Name y px) body a.s.hp.length a.v Hw 0 a.s) fun b=>
  some ⟨b.v,b.s,fun h=>have q:=b.ok h;have t:=a.ok q.1;⟨t.1,kJ (fun env x=>dA hf env x) t.2 hr hi q.2⟩⟩
 |_=>none
noncomputable def Hx (t:Stmt)(S:St):Option (Out S Fl (RS c sc n F S.hp t)):=match t with
 |.Expr r p=>gd (mF r) fun hc=>bd (ih.e sc n F r S) fun a=>some ⟨.next,a.s,fun h=>have q:=a.ok h;⟨q.1,Kx hc q.2⟩⟩
 |.Assign [g] r p=>PV ih sc n F g r p S
 |.AugAssign g o r p=>PY ih sc n F g o r p S
 |.If r ts ts2 p=>Sd ih sc n F r ts ts2 p S
 |.While r body [] p=>bd (To ih sc n F r body S.hp.length Hw S) fun a=>some ⟨a.v,a.s,fun h=>have q:=a.ok h;⟨q.1,tF q.2⟩⟩
 |.For g i body [] p=>PZ ih sc n F g i body p S
 |.Return (some r) p=>bd (ih.e sc n F r S) fun a=>some ⟨.ret a.v,a.s,fun h=>have q:=a.ok h;⟨q.1,Ky q.2⟩⟩
 |.Return none p=>some ⟨.ret (.dat .non),S,fun h=>⟨h,Hv⟩⟩
 |.Break p=>some ⟨.brk,S,fun h=>⟨h,Kz⟩⟩
 |.Pass p=>some ⟨.next,S,fun h=>⟨h,LC⟩⟩
 |.Assert r o p=>bd (ih.t sc n F r S) fun a=>match a with
  |⟨true,s,ok⟩=>some ⟨.next,s,fun h=>have q:=ok h;⟨q.1,LD q.2⟩⟩
  |_=>none
 |_=>none
noncomputable def Tq (t:Stmt)(S:St):Option (Out S Fl (RS c sc n F S.hp t)):=match S.hs with
 |.stm l fl hp'::r=>match Nat.beq t.pos.line l with
  |true=>some ⟨fl,⟨hp',r,S.g,RS c sc n F S.hp t fl hp'∧S.ob⟩,fun h=>⟨⟨h.g,h.ob.2⟩,h.ob.1⟩⟩
  |false=>Hx ih sc n F t S
 |.led l hp'::r=>match Nat.beq t.pos.line l with
  |true=>bd (Hx ih sc n F t ⟨hp',r,S.g,S.hp=hp'∧S.ob⟩) fun a=>some ⟨a.v,a.s,fun h=>have q:=a.ok h;⟨⟨q.1.g,q.1.ob.2⟩,q.1.ob.1▸q.2⟩⟩
  |false=>Hx ih sc n F t S
 |_=>Hx ih sc n F t S
noncomputable def Tr:(ts:List Stmt)→(S:St)→Option (Out S Fl (RX c sc n F S.hp ts))
 | [],S=>some ⟨.next,S,fun h=>⟨h,Kw⟩⟩
 |t::ts,S=>bd (Tq ih sc n F t S) fun a=>match Sb a.v with
  |.on e=>bd (Tr ts a.s) fun b=>some ⟨b.v,b.s,fun h=>have q:=b.ok h;have t:=a.ok q.1;⟨t.1,k7 (e▸t.2) q.2⟩⟩
  |.out g=>some ⟨a.v,a.s,fun h=>have t:=a.ok h;⟨t.1,Hf t.2 g⟩⟩
noncomputable def Se (r:Expr)(S:St):Option (Out S V (RE c sc n F S.hp r)):=match r with
 |.Constant v k p=>On sc n F k p S v
 |.Name q p=>Oo sc n F q p S
 |.Attribute r a p=>Oq ih sc n F r a p S
 |.Call g rs [] p=>Ox ih sc n F g rs p S
 |.Subscript r x p=>Oz ih sc n F r x p S
 |.BinOp l o r p=>PA ih sc n F l o r p S
 |.UnaryOp o r p=>PC ih sc n F o r p S
 |.Compare r os xs p=>bd (Jv ih sc n F r os xs p S) fun a=>some ⟨.dat (.boo a.v),a.s,fun h=>have q:=a.ok h;⟨q.1,q.2.1⟩⟩
 |.BoolOp op rs p=>bd (Jw ih sc n F op p rs S) fun a=>some ⟨a.v,a.s,fun h=>have q:=a.ok h;⟨q.1,Hb q.2⟩⟩
 |.IfExp r l x p=>PH ih sc n F r l x p S
 |.List rs p=>PD ih sc n F rs p S
 |.Tuple rs k p=>PE ih sc n F rs k p S
 |.Dict ks rs p=>PM ih sc n F ks rs p S
 |.ListComp re gs scope p=>PP ih sc n F re gs scope p S
 |_=>none
noncomputable def UQ (r:Expr)(S:St):Option (Out S V (RE c sc n F S.hp r)):=
 let usual:Option (Out S V (RE c sc n F S.hp r)):=bd (Se ih sc n F r S) fun a=>some (Oi r.pos a)
 match S.hs with
 |.exp k v hp'::q=>match at_ r.pos k with
  |true=>some ⟨v,⟨hp',q,S.g,RE c sc n F S.hp r v hp'∧S.ob⟩,fun h=>⟨⟨h.g,h.ob.2⟩,h.ob.1⟩⟩
  |false=>usual
 |_=>usual
noncomputable def Pa (r:Expr)(S:St):Option (Out S Bool (RB c sc n F S.hp r)):=gd (Oe r) fun hv=>bd (ih.e sc n F r S) fun a=>bd (Kg c n a.s.hp a.v) fun z=>some ⟨z.v,a.s.up z.hp z.g,fun h=>have q:=St.up_ok h;have t:=a.ok q.2;⟨t.1,HX (fun env wh=>Hm hv env wh) t.2 (z.ok q.1)⟩⟩
noncomputable def Sf (r:Expr)(S:St):Option (Out S Bool (RB c sc n F S.hp r)):=match r with
 |.Constant (.bool b) k p=>some ⟨b,S,fun h=>⟨h,HY⟩⟩
 |.UnaryOp .Not r p=>bd (ih.t sc n F r S) fun a=>some ⟨!a.v,a.s,fun h=>have q:=a.ok h;⟨q.1,Ha q.2⟩⟩
 |.Compare r os xs p=>bd (Jv ih sc n F r os xs p S) fun a=>some ⟨a.v,a.s,fun h=>have q:=a.ok h;⟨q.1,q.2.2⟩⟩
 |.BoolOp op rs p=>bd (Jx ih sc n F op rs S) fun a=>some ⟨a.v,a.s,fun h=>have q:=a.ok h;⟨q.1,Hc q.2⟩⟩
 |.IfExp r l x p=>bd (ih.t sc n F r S) fun a=>match a with
  |⟨true,s,ok⟩=>bd (ih.t sc n F l s) fun y=>some ⟨y.v,y.s,fun h=>have w:=y.ok h;have t:=ok w.1;⟨t.1,yZ t.2 (fun _=>w.2) nofun⟩⟩
  |⟨false,s,ok⟩=>bd (ih.t sc n F x s) fun y=>some ⟨y.v,y.s,fun h=>have w:=y.ok h;have t:=ok w.1;⟨t.1,yZ t.2 nofun fun _=>w.2⟩⟩
 |r=>Pa ih sc n F r S
noncomputable def UR (r:Expr)(S:St):Option (Out S Bool (RB c sc n F S.hp r)):=bd (Sf ih sc n F r S) fun a=>some (CU r.pos a)
end
noncomputable def Ev.nil (c:Cx):Ev c:=⟨fun _ _ _ _ _=>none,fun _ _ _ _ _=>none,fun _ _ _ _ _=>none,fun _ _ _ _ _ _=>none,fun _ _ _ _=>none,fun _ _ _ _=>none⟩
noncomputable def Ev.step {c:Cx}(tab:Tab c)(ih:Ev c):Ev c:=⟨fun sc n F r S=>UQ ih sc n F r S,fun sc n F r S=>UR ih sc n F r S,fun sc n F r S=>Tr ih sc n F r S,fun sc n F r v S=>UP ih sc n F r v S,fun n f args S=>SY ih n f args S,fun n f args S=>Ld tab ih n f args S⟩
noncomputable def ev {c:Cx}(tab:Tab c)(k:Nat):Ev c:=Nat.rec (Ev.nil c) (fun _ ih=>ih.step tab) k
end
section
noncomputable def y9:List Nat→List Stmt→Option (Arguments×Scope×List Stmt)
 | [],_=>none
 |i::r,body=>match r,body[i]? with
  | [],some (.FunctionDef _ a b _ _ _ sc _ _ _)=>some (a,sc,b)
  |r,some (.ClassDef _ _ _ b _ _ _ _ _ _ _)=>y9 r b
  |_,_=>none
noncomputable def kL (p:Program)(path:List Nat)(dflt:List V):Fn:=match y9 path p.main.body with
 |some (a,sc,b)=>⟨a.args.map fun x=>x.arg.cps.toList,dflt,eV sc.names,sc.names,b⟩
 |none=>⟨[],[],[],[],[]⟩
noncomputable def Sh:List Stmt→GenX
 | [s1,.While t1 [.While t2 [.Expr (.Yield (some e2) qy) qe] [] p2,.While t3 [.Expr (.Yield (some e3) py) pe] [] p3] [] p1]=>⟨s1,⟨t1,t2,e2,t3,e3⟩,p1,p2,p3,pe,py,qe,qy⟩
 |_=>⟨.Pass ⟨0,0,0,0⟩,⟨.Constant .none 0 ⟨0,0,0,0⟩,.Constant .none 0 ⟨0,0,0,0⟩,.Constant .none 0 ⟨0,0,0,0⟩,.Constant .none 0 ⟨0,0,0,0⟩,.Constant .none 0 ⟨0,0,0,0⟩⟩,⟨0,0,0,0⟩,⟨0,0,0,0⟩,⟨0,0,0,0⟩,⟨0,0,0,0⟩,⟨0,0,0,0⟩,⟨0,0,0,0⟩,⟨0,0,0,0⟩⟩
structure Zc (p:Program) (G:Gam) (tl:List (Nat×Fn)) where
 w:World
 K:Frag
 top:Top w.params K G
 tab:∀ a F,(a,F)∈tl→FnD w.params K a F
section
variable {p:Program}{G:Gam}{tl:List (Nat×Fn)}(z:Zc p G tl)
noncomputable def Zc.c:Cx:=⟨p,z.w,z.K,G,z.top⟩
noncomputable def Zc.t:Tab z.c:=⟨tl,z.tab⟩
noncomputable def Zc.ev:Ev z.c:=Tk.ev z.t 4000
end
noncomputable def V.lb:V→List Nat
 |.ref l=>[l]
 |.mth _ l=>[l]
 |_=>[]
noncomputable def O.lb:O→List Nat
 |.lst xs=>xs.flatMap V.lb
 |.tup xs=>xs.flatMap V.lb
 |.ns es=>es.flatMap fun x=>x.2.lb
 |.cel (some v)=>v.lb
 |.ins _ d=>[d]
 |_=>[]
noncomputable def Si (k:Nat)(hp:List O):Nat→List Nat→List Nat→List Nat
 |0,_,seen=>seen
 |_+1,[],seen=>seen
 |m+1,l::r,seen=>match Nat.blt l k||cA seen l with
  |true=>Si k hp m r seen
  |false=>Si k hp m ((hp[l]?.getD .gone).lb++r) (seen++[l])
noncomputable def auto (k:Nat)(v:V)(hp:List O):List Nat:=Si k hp 1000 (v.lb++(hp.take k).flatMap O.lb) []
inductive Fo where
 |fz (fz τ:List Nat)
 |auto
noncomputable def Jy (k:Nat)(o:Fo)(v:V)(hp:List O):Option (V×List O):=match o with
 |.fz fz τ=>g5 k fz τ v hp
 |.auto=>g5 k [] (auto k v hp) v hp
theorem xM {c:Cx}{n f:Nat}{args:List V}{hp hp2:List O}{v:V}{o:Fo}{p:V×List O}(h:CallOk c n f args hp v hp2)(e:Jy hp.length o v hp2=some p):CallOk c n f args hp p.1 p.2:=by
 cases o with
 |fz fz τ=>exact dF h e
 |auto=>exact dF h e
structure An (β:Type) where
 v:β
 hp:List O
 g:Bool
 ob:Prop
noncomputable def qB (hs:List Hi):Bool:=match hs with
 | []=>true
 |_=>false
section
variable {p:Program}{G:Gam}{tl:List (Nat×Fn)}(z:Zc p G tl)
noncomputable def Zc.run (n f:Nat)(args:List V)(hp:List O)(hs:List Hi)(o:Fo):Option (An V):=bd (xL z.t z.ev n f args ⟨hp,hs,true,True⟩) fun a=>gd (qB a.s.hs) fun _=>bd (Jy hp.length o a.v a.s.hp) fun p=>some ⟨p.1,p.2,a.s.g,a.s.ob⟩
theorem gU {α β:Type}{f:α→Option β}{x:Option α}{y:β}(h:bd x f=some y):∃ z,x=some z∧f z=some y:=by
 cases x with
 |none=>cases h
 |some z=>exact⟨z,rfl,h⟩
theorem lS {α:Type}{b:Bool}{f:b=true→Option α}{y:α}(h:gd b f=some y):∃ e,f e=some y:=by
 cases b with
 |true=>exact⟨rfl,h⟩
 |false=>cases h
theorem Zc.use {n f:Nat}{args:List V}{hp hp':List O}{hs:List Hi}{o:Fo}{v:V}{g:Bool}{ob:Prop}(hg:g=true)(ho:ob)(e:z.run n f args hp hs o=some ⟨v,hp',g,ob⟩):CallOk z.c n f args hp v hp':=by
 obtain⟨a,e1,e⟩:=gU e
 obtain⟨_,e⟩:=lS e
 obtain⟨q,e2,e⟩:=gU e
 cases e
 exact xM (a.ok ⟨hg,ho⟩).2 e2
noncomputable def Zc.runT (n:Nat)(sc:aU)(F:Fx)(r:Expr)(hp:List O)(hs:List Hi):Option (An Bool):=bd (z.ev.t sc n F r ⟨hp,hs,true,True⟩) fun a=>gd (qB a.s.hs) fun _=>some ⟨a.v,a.s.hp,a.s.g,a.s.ob⟩
noncomputable def Zc.runE (n:Nat)(sc:aU)(F:Fx)(r:Expr)(hp:List O)(hs:List Hi):Option (An V):=bd (z.ev.e sc n F r ⟨hp,hs,true,True⟩) fun a=>gd (qB a.s.hs) fun _=>some ⟨a.v,a.s.hp,a.s.g,a.s.ob⟩
noncomputable def Zc.runX (n:Nat)(sc:aU)(F:Fx)(r:List Stmt)(hp:List O)(hs:List Hi):Option (An Fl):=bd (z.ev.x sc n F r ⟨hp,hs,true,True⟩) fun a=>gd (qB a.s.hs) fun _=>some ⟨a.v,a.s.hp,a.s.g,a.s.ob⟩
noncomputable def Zc.runS (n:Nat)(sc:aU)(F:Fx)(r:Stmt)(hp:List O)(hs:List Hi):Option (An Fl):=bd (Tq z.ev sc n F r ⟨hp,hs,true,True⟩) fun a=>gd (qB a.s.hs) fun _=>some ⟨a.v,a.s.hp,a.s.g,a.s.ob⟩
section
variable {z}{n:Nat}{sc:aU}{F:Fx}{hp hp':List O}{hs:List Hi}{g:Bool}{ob:Prop}(hg:g=true)(ho:ob)
include hg ho
theorem Zc.useT {r:Expr}{b:Bool}(e:z.runT n sc F r hp hs=some ⟨b,hp',g,ob⟩):RB z.c sc n F hp r b hp':=by
 obtain⟨a,e1,e⟩:=gU e
 obtain⟨_,e⟩:=lS e
 cases e
 exact(a.ok ⟨hg,ho⟩).2
theorem Zc.useE {r:Expr}{v:V}(e:z.runE n sc F r hp hs=some ⟨v,hp',g,ob⟩):RE z.c sc n F hp r v hp':=by
 obtain⟨a,e1,e⟩:=gU e
 obtain⟨_,e⟩:=lS e
 cases e
 exact(a.ok ⟨hg,ho⟩).2
theorem Zc.useX {r:List Stmt}{fl:Fl}(e:z.runX n sc F r hp hs=some ⟨fl,hp',g,ob⟩):RX z.c sc n F hp r fl hp':=by
 obtain⟨a,e1,e⟩:=gU e
 obtain⟨_,e⟩:=lS e
 cases e
 exact(a.ok ⟨hg,ho⟩).2
theorem Zc.useS {r:Stmt}{fl:Fl}(e:z.runS n sc F r hp hs=some ⟨fl,hp',g,ob⟩):RS z.c sc n F hp r fl hp':=by
 obtain⟨a,e1,e⟩:=gU e
 obtain⟨_,e⟩:=lS e
 cases e
 exact(a.ok ⟨hg,ho⟩).2
end
end
noncomputable def uX:Pos:=⟨0,0,0,0⟩
noncomputable def nW (b:List Stmt)(k:Nat):Stmt:=b[k]?.getD (.Pass uX)
structure ForI where
 y:Str
 px:Pos
 i:Expr
 b:List Stmt
 p:Pos
noncomputable def vR:Stmt→ForI
 |.For (.Name y px) i b [] p=>⟨y,px,i,b,p⟩
 |_=>⟨⟨#[]⟩,uX,.Constant .none 0 uX,[],uX⟩
noncomputable def ForI.g (f:ForI):Expr:=.Name f.y f.px
noncomputable def ForI.s (f:ForI):Stmt:=.For (.Name f.y f.px) f.i f.b [] f.p
structure WhlI where
 t:Expr
 b:List Stmt
 p:Pos
noncomputable def Li:Stmt→WhlI
 |.While t b [] p=>⟨t,b,p⟩
 |_=>⟨.Constant .none 0 uX,[],uX⟩
noncomputable def WhlI.s (f:WhlI):Stmt:=.While f.t f.b [] f.p
end
section
noncomputable def Lj:Nm:=[116,101,120,116]
noncomputable def Hy:Nm:=[112,108,97,99,101]
noncomputable def i9:Nm:=VF
noncomputable def xN:Nm:=[110,101,119,76,105,110,101,115]
noncomputable def tK:Nm:=[100,97,116,97,83,116,114,101,97,109]
noncomputable def Hz:Nm:=[99,104,117,110,107]
noncomputable def vS:Nm:=[99,104,117,110,107,83,105,122,101]
noncomputable def rG:Nm:=[99,104,117,110,107,79,102,102,115,101,116]
noncomputable def Cc:Nm:=[101,114,114,111,114,115]
noncomputable def qC:Nm:=VK
noncomputable def rH:Nm:=[112,114,101,118,78,117,109,67,111,108,115]
noncomputable def lG:Nm:=VH
noncomputable def Cd:Nm:=[115,116,114,101,97,109]
noncomputable def Ce:Nm:=[112,97,114,115,101,114]
noncomputable def tL:Nm:=[101,115,99,97,112,101,70,108,97,103]
noncomputable def oC:Nm:=VJ
noncomputable def IB:Nm:=[115,116,97,116,101]
noncomputable def Cf:Nm:=[101,115,99,97,112,101]
noncomputable def qD:Nm:=VL
noncomputable def tM:Nm:=[116,111,107,101,110,81,117,101,117,101]
noncomputable def Pb:D:=.non
noncomputable def eR:D:=.tup [.str [9],.str [10],.str [12],.str [32],.str [13]]
noncomputable def kM:D:=.tup [.str [97],.str [98],.str [99],.str [100],.str [101],.str [102],.str [103],.str [104],.str [105],.str [106],.str [107],.str [108],.str [109],.str [110],.str [111],.str [112],.str [113],.str [114],.str [115],.str [116],.str [117],.str [118],.str [119],.str [120],.str [121],.str [122],.str [65],.str [66],.str [67],.str [68],.str [69],.str [70],.str [71],.str [72],.str [73],.str [74],.str [75],.str [76],.str [77],.str [78],.str [79],.str [80],.str [81],.str [82],.str [83],.str [84],.str [85],.str [86],.str [87],.str [88],.str [89],.str [90]]
noncomputable def Cg:D:=.tup [.str [48],.str [49],.str [50],.str [51],.str [52],.str [53],.str [54],.str [55],.str [56],.str [57]]
noncomputable def vT:D:=.tup [.str [48],.str [49],.str [50],.str [51],.str [52],.str [53],.str [54],.str [55],.str [56],.str [57],.str [97],.str [98],.str [99],.str [100],.str [101],.str [102],.str [65],.str [66],.str [67],.str [68],.str [69],.str [70]]
noncomputable def jL:D:=.dct [([68,111,99,116,121,112,101],.int 0),([67,104,97,114,97,99,116,101,114,115],.int 1),([83,112,97,99,101,67,104,97,114,97,99,116,101,114,115],.int 2),([83,116,97,114,116,84,97,103],.int 3),([69,110,100,84,97,103],.int 4),([69,109,112,116,121,84,97,103],.int 5),([67,111,109,109,101,110,116],.int 6),([80,97,114,115,101,69,114,114,111,114],.int 7)]
noncomputable def oD:D:=.tup [.int 3,.int 4,.int 5]
noncomputable def Lk:Cl:=⟨73,[(VI,63),([114,101,97,100],70)],
 [Lj,Hy],[]⟩
noncomputable def iR:Cl:=⟨166,[(VI,98),([114,101,115,101,116],105),([111,112,101,110,83,116,114,101,97,109],112),([95,112,111,115,105,116,105,111,110],119),([99,104,97,114],133),([114,101,97,100,67,104,117,110,107],141),([99,104,97,114,97,99,116,101,114,69,114,114,111,114,115,85,67,83,52],148),([99,104,97,114,115,85,110,116,105,108],156),([117,110,103,101,116],163)],
 [i9,xN,tK,Hz,vS,rG,Cc,qC,rH,lG],[([95,100,101,102,97,117,108,116,67,104,117,110,107,83,105,122,101],.dat (.int 10240))]⟩
noncomputable def jZ:Cl:=⟨762,[(VI,261),([95,95,105,116,101,114,95,95],268),([100,97,116,97,83,116,97,116,101],304),([101,110,116,105,116,121,68,97,116,97,83,116,97,116,101],311),([116,97,103,79,112,101,110,83,116,97,116,101],353),([99,108,111,115,101,84,97,103,79,112,101,110,83,116,97,116,101],360),([116,97,103,78,97,109,101,83,116,97,116,101],367),([98,111,103,117,115,67,111,109,109,101,110,116,83,116,97,116,101],598),([109,97,114,107,117,112,68,101,99,108,97,114,97,116,105,111,110,79,112,101,110,83,116,97,116,101],605),([99,111,109,109,101,110,116,83,116,97,114,116,83,116,97,116,101],612),([99,111,109,109,101,110,116,83,116,97,114,116,68,97,115,104,83,116,97,116,101],619),([99,111,109,109,101,110,116,83,116,97,116,101],626),([99,111,109,109,101,110,116,69,110,100,68,97,115,104,83,116,97,116,101],633),([99,111,109,109,101,110,116,69,110,100,83,116,97,116,101],640),([99,111,109,109,101,110,116,69,110,100,66,97,110,103,83,116,97,116,101],647),([100,111,99,116,121,112,101,83,116,97,116,101],654),([98,101,102,111,114,101,68,111,99,116,121,112,101,78,97,109,101,83,116,97,116,101],661),([100,111,99,116,121,112,101,78,97,109,101,83,116,97,116,101],668),([97,102,116,101,114,68,111,99,116,121,112,101,78,97,109,101,83,116,97,116,101],675),([97,102,116,101,114,68,111,99,116,121,112,101,80,117,98,108,105,99,75,101,121,119,111,114,100,83,116,97,116,101],682),([98,101,102,111,114,101,68,111,99,116,121,112,101,80,117,98,108,105,99,73,100,101,110,116,105,102,105,101,114,83,116,97,116,101],689),([100,111,99,116,121,112,101,80,117,98,108,105,99,73,100,101,110,116,105,102,105,101,114,68,111,117,98,108,101,81,117,111,116,101,100,83,116,97,116,101],696),([100,111,99,116,121,112,101,80,117,98,108,105,99,73,100,101,110,116,105,102,105,101,114,83,105,110,103,108,101,81,117,111,116,101,100,83,116,97,116,101],703),([97,102,116,101,114,68,111,99,116,121,112,101,80,117,98,108,105,99,73,100,101,110,116,105,102,105,101,114,83,116,97,116,101],710),([98,101,116,119,101,101,110,68,111,99,116,121,112,101,80,117,98,108,105,99,65,110,100,83,121,115,116,101,109,73,100,101,110,116,105,102,105,101,114,115,83,116,97,116,101],717),([97,102,116,101,114,68,111,99,116,121,112,101,83,121,115,116,101,109,75,101,121,119,111,114,100,83,116,97,116,101],724),([98,101,102,111,114,101,68,111,99,116,121,112,101,83,121,115,116,101,109,73,100,101,110,116,105,102,105,101,114,83,116,97,116,101],731),([100,111,99,116,121,112,101,83,121,115,116,101,109,73,100,101,110,116,105,102,105,101,114,68,111,117,98,108,101,81,117,111,116,101,100,83,116,97,116,101],738),([100,111,99,116,121,112,101,83,121,115,116,101,109,73,100,101,110,116,105,102,105,101,114,83,105,110,103,108,101,81,117,111,116,101,100,83,116,97,116,101],745),([97,102,116,101,114,68,111,99,116,121,112,101,83,121,115,116,101,109,73,100,101,110,116,105,102,105,101,114,83,116,97,116,101],752),([98,111,103,117,115,68,111,99,116,121,112,101,83,116,97,116,101],759)],
 [Cd,Ce,tL,oC,IB,Cf,qD,tM],[]⟩
noncomputable def rC:Gam:=⟨[([95,119,97,108,108],.top 21),
 ([69,79,70],.dat Pb),
 ([115,112,97,99,101,67,104,97,114,97,99,116,101,114,115],.dat eR),
 ([97,115,99,105,105,76,101,116,116,101,114,115],.dat kM),
 ([100,105,103,105,116,115],.dat Cg),
 ([104,101,120,68,105,103,105,116,115],.dat vT),
 ([97,115,99,105,105,76,111,119,101,114],.top 42),
 ([116,111,107,101,110,84,121,112,101,115],.dat jL),
 ([116,97,103,84,111,107,101,110,84,121,112,101,115],.dat oD),
 ([84,101,120,116],.top 73),
 ([95,105,115,95,105,110,118,97,108,105,100],.top 84),
 ([72,84,77,76,85,110,105,99,111,100,101,73,110,112,117,116,83,116,114,101,97,109],.top 166),
 ([98,105,115,101,99,116,95,108,101,102,116],.top 178),
 ([84,114,105,101],.top 230),
 ([72,84,77,76,84,111,107,101,110,105,122,101,114],.top 762),
 ([95,108,97,119,95,78,79,84,69,83],.top 773),
 ([95,108,97,119,95,78,65,77,69,83],.top 780),
 ([95,108,97,119,95,75,69,89,87,79,82,68,83],.top 787),
 ([95,108,97,119,95,81,85,79,84,69,68],.top 794),
 ([95,108,97,119,95,66,79,71,85,83],.top 801),
 ([95,108,97,119,95,79,68,68],.top 808),
 ([95,108,97,119,95,87,79,82,68,83],.top 815),
 ([95,108,97,119,95,110,101,120,116],.top 822),
 ([95,108,97,119,95,109,101,110,100],.top 829),
 ([95,108,97,119,95,115,109,97,108,108],.top 834),
 ([95,108,97,119,95,116,111,108,100],.top 839),
 ([95,108,97,119,95,97,100,100],.top 846),
 ([95,108,97,119,95,112,108,97,105,110],.top 853),
 ([95,108,97,119,95,111,100,100],.top 860),
 ([95,108,97,119,95,100,97,115,104,101,115],.top 867),
 ([95,108,97,119,95,110,111,116,101],.top 874),
 ([95,108,97,119,95,99,111,109,109,101,110,116],.top 881),
 ([95,108,97,119,95,113,117,111,116,101,100],.top 888),
 ([95,108,97,119,95,100,111,99,116,121,112,101],.top 893),
 ([95,108,97,119,95,100,117,101],.top 900),
 ([95,108,97,119,95,114,111,119],.top 907),
 ([108,97,119],.top 912)],[Lk,iR,jZ],[([108,101,110],.blt "len"),([111,114,100],.blt "ord"),([99,104,114],.blt "chr"),([109,97,120],.blt "max"),([114,97,110,103,101],.typ "range")]⟩
noncomputable abbrev k8:Program:=PySem.Challenge.pw_te0044_04
noncomputable def vU:List (Nat×List Nat×List V):=[(42,[7],[]),
 (63,[13,0],[]),
 (70,[13,1],[]),
 (84,[14],[]),
 (98,[15,1],[]),
 (105,[15,2],[]),
 (112,[15,3],[]),
 (119,[15,4],[]),
 (133,[15,6],[]),
 (141,[15,7],[.dat .non]),
 (148,[15,8],[]),
 (156,[15,9],[.dat (.boo false)]),
 (163,[15,10],[]),
 (261,[21,0],[.dat .non]),
 (304,[21,6],[]),
 (311,[21,7],[]),
 (353,[21,13],[]),
 (360,[21,14],[]),
 (367,[21,15],[]),
 (598,[21,48],[]),
 (605,[21,49],[]),
 (612,[21,50],[]),
 (619,[21,51],[]),
 (626,[21,52],[]),
 (633,[21,53],[]),
 (640,[21,54],[]),
 (647,[21,55],[]),
 (654,[21,56],[]),
 (661,[21,57],[]),
 (668,[21,58],[]),
 (675,[21,59],[]),
 (682,[21,60],[]),
 (689,[21,61],[]),
 (696,[21,62],[]),
 (703,[21,63],[]),
 (710,[21,64],[]),
 (717,[21,65],[]),
 (724,[21,66],[]),
 (731,[21,67],[]),
 (738,[21,68],[]),
 (745,[21,69],[]),
 (752,[21,70],[]),
 (759,[21,71],[]),
 (773,[23],[]),
 (780,[24],[]),
 (787,[25],[]),
 (794,[26],[]),
 (801,[27],[]),
 (808,[28],[]),
 (815,[29],[]),
 (822,[30],[]),
 (829,[31],[]),
 (834,[32],[]),
 (839,[33],[]),
 (846,[34],[]),
 (853,[35],[]),
 (860,[36],[]),
 (867,[37],[]),
 (874,[38],[]),
 (881,[39],[]),
 (888,[40],[]),
 (893,[41],[]),
 (900,[42],[]),
 (907,[43],[]),
 (912,[44],[])]
noncomputable def IC:List (Nat×Fn):=vU.map fun x=>(x.1,kL k8 x.2.1 x.2.2)
noncomputable def AS:Nat×List Nat:=(268,[21,1])
noncomputable abbrev c8:=Zc k8 rC IC
end
section
noncomputable def tN:PySem.W.BT→Nat→List Obj→Option PySem.W.BT
 |t,_,[]=>some t
 |t,n,o::r=>match((t.ins n o).get n).isSome with
  |true=>tN (t.ins n o) (n+1) r
  |false=>none
theorem qE {life:Life}:∀ (l:List Obj) (t t':PySem.W.BT) (n:Nat),tN t n l=some t'→
  absHeap t' (n+l.length) life=⟨(absHeap t n life).objs++l.toArray,life⟩
 | [],t,t',n,h=>by
  cases h
  show absHeap t n life=_
  simp[absHeap]
 |o::r,t,t',n,h=>by
  unfold tN at h
  cases g:((t.ins n o).get n).isSome with
  |false=>rw[g]at h;cases h
  |true=>
   rw[g]at h
   have ih:=qE (life:=life) r (t.ins n o) t' (n+1) h
   rw[absHeap_ins g]at ih
   have e:n+(o::r).length=n+1+r.length:=by simp only[List.length_cons];omega
   rw[e,ih]
   show Heap.mk _ _=Heap.mk _ _
   congr 1
   show((absHeap t n life).objs.push o)++r.toArray=_
   rw[← Array.toList_inj]
   simp
noncomputable def Rt (s:Shared):Option SharedT:=match tN .nil 0 s.heap.objs.toList with
 |some t=>some ⟨t,s.heap.objs.size,s.heap.life,s.gens,s.drawn,s.toks,s.os⟩
 |none=>none
theorem ID {s:Shared}{T:SharedT}(h:Rt s=some T):T.abs=s:=by
 unfold Rt at h
 split at h
 ·rename_i t e
  cases h
  have:=qE (life:=s.heap.life) _ _ _ _ e
  obtain⟨⟨objs,life⟩,gens,drawn,toks,os⟩:=s
  show Shared.mk (absHeap t objs.size life) gens drawn toks os=_
  dsimp only at this
  rw[Nat.zero_add,Array.length_toList]at this
  rw[this]
  simp[absHeap,PySem.W.BT.list]
 ·cases h
noncomputable def runT (stp:SharedT→Thread→Option (SharedT×Thread))(ok:Thread→Bool):Nat→SharedT→Thread→Option SharedT
 |0,_,_=>none
 |n+1,s,t=>match through t with
  |true=>some s
  |false=>match ok t with
   |false=>none
   |true=>match stp s t with
    |some (s',t')=>runT stp ok n s' t'
    |none=>none
theorem rX {tb:String→Option Builtin}{p:Program}{w:World}{n₀:Nat}{ann:Option Value}:∀ (n:Nat) (s s':SharedT) (t:Thread),
  runT (stepT (denote tb) p w) (stepOk n₀ ann) n s t=some s'→topRun tb p w n₀ ann n s.abs t=some s'.abs
 |0,_,_,_,h=>by cases h
 |n+1,s,s',t,h=>by
  unfold runT at h
  unfold topRun
  cases ht:through t with
  |true=>rw[ht]at h;cases h;rfl
  |false=>
   rw[ht]at h
   cases hk:stepOk n₀ ann t with
   |false=>rw[hk]at h;cases h
   |true=>
    rw[hk]at h
    cases hs:stepT (denote tb) p w s t with
    |none=>rw[hs]at h;cases h
    |some r=>obtain⟨s₂,t₂⟩:=r;rw[hs]at h;rw[stepT_spec hs];exact rX n _ _ _ h
noncomputable def Lm (fenced:Option Shared)(stp:SharedT→Thread→Option (SharedT×Thread))(ok:Nat→Option Value→Thread→Bool)(nsm:Heap→Addr→Str→Option Value)
  (stub:Thread)(stat:Heap→Heap→Bool)(nb:Heap→Bool)(gd:Shared→Bool)(lk:Heap→Heap→Bool)(N:Nat):Option SharedT:=
 match fenced with
 |none=>none
 |some s₀=>match s₀.heap.isNs mainGlobals&&s₀.gens.size==0 with
  |false=>none
  |true=>match Rt s₀ with
   |none=>none
   |some T=>match runT stp (ok s₀.heap.objs.size (nsm s₀.heap mainGlobals "__annotations__")) N T stub with
    |none=>none
    |some T'=>match stat s₀.heap T'.abs.heap&&nb T'.abs.heap&&gd T'.abs&&lk s₀.heap T'.abs.heap with
     |true=>some T'
     |false=>none
theorem AU {p:Program}{w:World}{N:Nat}{T':SharedT}
  (h:Lm (fencedOpening treeTable p w N) (stepT (denote treeTable) p w) stepOk Heap.nsMap (topStub p) (staticsOk (importedModules p.main.body)) (namesBound p) gensDone laidKept N=some T'):
  openEnds treeTable p w N=some T'.abs:=by
 unfold Lm at h
 unfold openEnds
 cases h0:fencedOpening treeTable p w N with
 |none=>rw[h0]at h;cases h
 |some s₀=>
  rw[h0]at h
  dsimp only at h
  rw[Option.bind_some]
  unfold topFrom
  cases hg:(s₀.heap.isNs mainGlobals&&s₀.gens.size==0)with
  |false=>rw[hg]at h;cases h
  |true=>
   rw[hg]at h
   dsimp only at h ⊢
   cases hT:Rt s₀ with
   |none=>rw[hT]at h;cases h
   |some T=>
    rw[hT]at h
    dsimp only at h
    cases hr:runT (stepT (denote treeTable) p w) (stepOk s₀.heap.objs.size (s₀.heap.nsMap mainGlobals "__annotations__")) N T (topStub p)with
    |none=>rw[hr]at h;cases h
    |some T₁=>
     rw[hr]at h
     dsimp only at h
     have e:=rX _ _ _ _ hr
     rw[ID hT]at e
     rw[e,Option.bind_some]
     cases hc:(staticsOk (importedModules p.main.body) s₀.heap T₁.abs.heap&&namesBound p T₁.abs.heap&&gensDone T₁.abs&&laidKept s₀.heap T₁.abs.heap)with
     |false=>rw[hc]at h;cases h
     |true=>rw[hc]at h;dsimp only at h ⊢;rw[Option.some.inj h]
noncomputable def vV (as:List Nat)(T:SharedT):Frag:=as.filterMap fun a=>match Nat.blt a T.n with
 |true=>(alive ((T.tree.get a).getD default)).map fun o=>(a,o)
 |false=>none
noncomputable def oX (as:List Nat)(s:Shared):Frag:=as.filterMap fun a=>(s.heap.get? a).map fun o=>(a,o)
theorem zA (as:List Nat)(T:SharedT):vV as T=oX as T.abs:=by
 unfold vV oX
 congr 1
 funext a
 show _=((absHeap T.tree T.n T.life).get? a).map _
 unfold Heap.get?
 rw[absHeap_at]
 cases h:Nat.blt a T.n with
 |false=>
  have:¬ a<T.n:=fun q=>by
   have:=Nat.ble_eq.mpr (show a+1≤T.n from q)
   rw[show Nat.blt a T.n=Nat.ble (a+1) T.n from rfl]at h
   rw[h]at this;cases this
  rw[if_neg this];rfl
 |true=>
  have:a<T.n:=Nat.le_of_ble_eq_true h
  rw[if_pos this]
  dsimp only
  generalize (T.tree.get a).getD default=o
  obtain⟨c,d,dt,sl⟩:=o
  cases dt <;>rfl
theorem Ln {as:List Nat}{s:Shared}{a:Addr}{o:Obj}(h:(oX as s).lookup a=some o):s.heap.get? a=some o:=by
 unfold oX at h
 induction as with
 |nil=>cases h
 |cons b as ih=>
  rw[List.filterMap_cons]at h
  cases e:s.heap.get? b with
  |none=>rw[e]at h;exact ih h
  |some o'=>
   rw[e]at h
   dsimp only[Option.map_some]at h
   rw[List.lookup_cons]at h
   cases q:a==b with
   |true=>rw[q]at h;cases h;rw[beq_iff_eq.mp q];exact e
   |false=>rw[q]at h;exact ih h
noncomputable abbrev Pc:=PySem.W.Fast.tw11892475500146522536
noncomputable abbrev IE:=PySem.W.Fast.tw14364793385576792824
noncomputable abbrev Ch:=PySem.W.Fast.tw10156331382660048174
noncomputable abbrev Ts:=PySem.W.Fast.tw6613529449190102663
noncomputable abbrev Tt:=PySem.W.Fast.tw8920871248978507458
noncomputable abbrev Pd:=PySem.W.Fast.tw10274390034422433532
noncomputable abbrev Pe:=PySem.W.Fast.tw14289696077712309145
noncomputable abbrev Lo:=PySem.W.Fast.tw1435165496053646825
noncomputable abbrev zB:=PySem.W.Fast.tw4187177175401517315
noncomputable def Sj (p:Program)(w:World)(N:Nat):Option Shared:=(Pd IE (opening p) w N (Lo (opening p)).1 (Lo (opening p)).2).bind (Pe p)
noncomputable def Ci (p:Program)(w:World)(N:Nat):Option SharedT:=Lm (Sj p w N) (Ch (Pc IE) p w) Ts Tt (topStub p) (staticsOk (importedModules p.main.body)) (namesBound p) gensDone laidKept N
theorem Lp (p:Program)(w:World)(N:Nat):Sj p w N=fencedOpening treeTable p w N:=by
 unfold Sj fencedOpening
 have e1: @importEnds=Pd:=PySem.W.Fast.te10274390034422433532
 have e2: @treeTable=IE:=PySem.W.Fast.te14364793385576792824
 have e3: @start=Lo:=PySem.W.Fast.te1435165496053646825
 have e4: @fenceModules?=Pe:=PySem.W.Fast.te14289696077712309145
 rw[e1,e2,e3,e4]
theorem AV {p:Program}{w:World}{N:Nat}{T':SharedT}(h:Ci p w N=some T'):openEnds treeTable p w N=some T'.abs:=by
 refine AU ?_
 unfold Ci at h
 rw[Lp]at h
 have e1: @stepT=Ch:=PySem.W.Fast.te10156331382660048174
 have e2: @treeTable=IE:=PySem.W.Fast.te14364793385576792824
 have e3: @denote=Pc:=PySem.W.Fast.te11892475500146522536
 have e4: @stepOk=Ts:=PySem.W.Fast.te6613529449190102663
 have e5: @Heap.nsMap=Tt:=PySem.W.Fast.te8920871248978507458
 rw[e1,e3,e4,e5]
 rw[← e2]at h
 exact h
theorem IF {p q:Program}{loose:List Str}{α:Type}{N:Nat}{row:String}{as bs:List Nat}{see:Frag→Frag→Nat→α}{told:World→α}
  (h:∀ (w:World) (b:Bool),(Ci p (w.withFollow row b) N).map (fun T=>(zB q loose (importedModules p.main.body) (fun _=>true) true T.abs,see (vV as T) (vV bs T) T.toks))=some (openGood q loose,told (w.withFollow row b))):
  LeftO p q loose (fun _=>true) (fun s=>see (oX as s) (oX bs s) s.toks) told N:=by
 have k:∀ (w:World) (b:Bool),(openEnds treeTable p (w.withFollow row b) N).map (fun s=>(openSeen q loose (importedModules p.main.body) (fun _=>true) true s,see (oX as s) (oX bs s) s.toks))=some (openGood q loose,told (w.withFollow row b)):=fun w b=>by
  obtain⟨T,e1,e2⟩:=Option.map_eq_some_iff.mp (h w b)
  rw[AV e1,Option.map_some]
  have e6: @openSeen=zB:=PySem.W.Fast.te4187177175401517315
  rw[e6,← e2,zA,zA]
  rfl
 exact byRow2 row (P:=fun w=>(openEnds treeTable p w N).map (fun s=>(openSeen q loose (importedModules p.main.body) (fun _=>true) true s,see (oX as s) (oX bs s) s.toks))=some (openGood q loose,told w)) (fun w=>k w false) (fun w=>k w true)
end
section
noncomputable def nX:List Nat→List Stmt→Str×Str
 | [],_=>(st [],st [])
 |i::r,body=>match r,body[i]? with
  | [],some (.FunctionDef n _ _ _ _ _ _ _ _ _)=>(n,n)
  |r,some (.ClassDef n _ _ b _ _ _ _ _ _ _)=>((nX r b).1,n++"." ++(nX r b).2)
  |_,_=>(st [],st [])
noncomputable def Sk (a:Nat):Value:=match Nat.blt a 50 with
 |true=>.str (Str.ofString "html5lib.constants") 194
 |false=>match Nat.blt a 254 with
  |true=>.str (Str.ofString "html5lib._inputstream") 564
  |false=>match Nat.blt a 765 with
   |true=>.str (Str.ofString "html5lib._tokenizer") 825
   |false=>.str (Str.ofString "law_te0044_04") 1442
noncomputable def Sl (a:Nat)(ds:List V):Value:=match ds with
 | []=>.none
 |_=>.ref (a-7)
noncomputable abbrev Pl:=Nat×List Nat×List V
noncomputable def oE (x:Pl):Option FuncData:=(y9 x.2.1 k8.main.body).map fun d=>
 {name:=(nX x.2.1 k8.main.body).1,qualname:=(nX x.2.1 k8.main.body).2,params:=d.1,body:=.stmts d.2.2,scope:=d.2.1,globals:=mainGlobals,closure:=[],defaults:=Sl x.1 x.2.2,kwdefaults:=.none,
  pyModule:=Sk x.1,code:=.ref (x.1-1),builtins:=builtinsNs}
noncomputable def Jz (x:Pl):Nat×Obj:=(x.1,match oE x with
 |some fd=>⟨.type "function",none,.func fd,#[]⟩
 |none=>default)
noncomputable def mK:List Pl:=(AS.1,AS.2,[])::vU
noncomputable def ke (P:Params)(n:String)(t:Nat)(v:Value):DictEntry:=⟨PyData.keyHash P (Str.ofString n),.str (Str.ofString n) t,v⟩
noncomputable def Pf (P:Params):Frag:=[(3,⟨.type "dict",none,.dict #[ke P "__name__" 165 (.str (Str.ofString "law_te0044_04") 1442),ke P "__doc__" 166 (.none),ke P "__package__" 167 (.none),ke P "__loader__" 168 (.builtin "__main__.__loader__#opaque"),ke P "__spec__" 169 (.none),ke P "__annotations__" 170 (.ref 6),ke P "__builtins__" 171 (.ref 4),ke P "__file__" 173 (.str (Str.ofString "/claim/cut.py") 172),ke P "__cached__" 174 (.none),ke P "_wall" 193 (.ref 21),ke P "EOF" 196 (.none),ke P "spaceCharacters" 202 (.ref 22),ke P "asciiLetters" 256 (.ref 27),ke P "digits" 268 (.ref 32),ke P "hexDigits" 292 (.ref 37),ke P "asciiLower" 298 (.ref 42),ke P "entities" 428 (.ref 43),ke P "replacementCharacters" 531 (.ref 46),ke P "tokenTypes" 556 (.ref 48),ke P "tagTokenTypes" 563 (.ref 49),ke P "Text" 604 (.ref 73),ke P "_is_invalid" 611 (.ref 84),ke P "HTMLUnicodeInputStream" 735 (.ref 166),ke P "bisect_left" 749 (.ref 178),ke P "Trie" 824 (.ref 230),ke P "entitiesTrie" 841 (.ref 236),ke P "HTMLTokenizer" 1441 (.ref 762),ke P "_law_NOTES" 1449 (.ref 773),ke P "_law_NAMES" 1455 (.ref 780),ke P "_law_KEYWORDS" 1461 (.ref 787),ke P "_law_QUOTED" 1467 (.ref 794),ke P "_law_BOGUS" 1473 (.ref 801),ke P "_law_ODD" 1479 (.ref 808),ke P "_law_WORDS" 1485 (.ref 815),ke P "_law_next" 1492 (.ref 822),ke P "_law_mend" 1499 (.ref 829),ke P "_law_small" 1505 (.ref 834),ke P "_law_told" 1511 (.ref 839),ke P "_law_add" 1520 (.ref 846),ke P "_law_plain" 1529 (.ref 853),ke P "_law_odd" 1536 (.ref 860),ke P "_law_dashes" 1545 (.ref 867),ke P "_law_note" 1553 (.ref 874),ke P "_law_comment" 1565 (.ref 881),ke P "_law_quoted" 1582 (.ref 888),ke P "_law_doctype" 1588 (.ref 893),ke P "_law_due" 1599 (.ref 900),ke P "_law_row" 1610 (.ref 907),ke P "law" 1616 (.ref 912)] 49,#[]⟩),
 (72,⟨.type "dict",none,.dict #[ke P "__module__" 573 (.str (Str.ofString "html5lib._inputstream") 564),ke P "__firstlineno__" 577 (.int 17 576),ke P "__init__" 585 (.ref 63),ke P "read" 594 (.ref 70),ke P "__static_attributes__" 597 (.ref 71),ke P "__dict__" 599 (.ref 74),ke P "__weakref__" 601 (.ref 75),ke P "__doc__" 602 (.none)] 4,#[]⟩),
 (73,⟨.type "type",none,.cls {name:=Str.ofString "Text",bases:=[.type "object"],mro:=[.ref 73,.type "object"],ns:=72,qualname:=Str.ofString "Text"},#[some (.ref 50),none,some (.str (Str.ofString "Text") 566),some (.str (Str.ofString "Text") 574),some (.builtin "object.__new__"),some (.bool true)]⟩),
 (165,⟨.type "dict",none,.dict #[ke P "__module__" 619 (.str (Str.ofString "html5lib._inputstream") 564),ke P "__firstlineno__" 623 (.int 29 622),ke P "_defaultChunkSize" 625 (.int 10240 624),ke P "__init__" 633 (.ref 98),ke P "reset" 640 (.ref 105),ke P "openStream" 649 (.ref 112),ke P "_position" 662 (.ref 119),ke P "position" 669 (.ref 126),ke P "char" 678 (.ref 133),ke P "readChunk" 688 (.ref 141),ke P "characterErrorsUCS4" 697 (.ref 148),ke P "charsUntil" 709 (.ref 156),ke P "unget" 717 (.ref 163),ke P "__static_attributes__" 728 (.ref 164),ke P "__dict__" 730 (.ref 167),ke P "__weakref__" 732 (.ref 168),ke P "__doc__" 733 (.none)] 4,#[]⟩),
 (166,⟨.type "type",none,.cls {name:=Str.ofString "HTMLUnicodeInputStream",bases:=[.type "object"],mro:=[.ref 166,.type "object"],ns:=165,qualname:=Str.ofString "HTMLUnicodeInputStream"},#[some (.ref 85),none,some (.str (Str.ofString "HTMLUnicodeInputStream") 612),some (.str (Str.ofString "HTMLUnicodeInputStream") 620),some (.builtin "object.__new__"),some (.bool true)]⟩),
 (761,⟨.type "dict",none,.dict #[ke P "__module__" 849 (.str (Str.ofString "html5lib._tokenizer") 825),ke P "__firstlineno__" 853 (.int 181 852),ke P "__init__" 862 (.ref 261),ke P "__iter__" 869 (.ref 268),ke P "consumeNumberEntity" 884 (.ref 275),ke P "consumeEntity" 899 (.ref 283),ke P "processEntityInAttribute" 907 (.ref 290),ke P "emitCurrentToken" 917 (.ref 297),ke P "dataState" 926 (.ref 304),ke P "entityDataState" 933 (.ref 311),ke P "rcdataState" 940 (.ref 318),ke P "characterReferenceInRcdata" 947 (.ref 325),ke P "rawtextState" 954 (.ref 332),ke P "scriptDataState" 961 (.ref 339),ke P "plaintextState" 968 (.ref 346),ke P "tagOpenState" 976 (.ref 353),ke P "closeTagOpenState" 984 (.ref 360),ke P "tagNameState" 992 (.ref 367),ke P "rcdataLessThanSignState" 999 (.ref 374),ke P "rcdataEndTagOpenState" 1006 (.ref 381),ke P "rcdataEndTagNameState" 1013 (.ref 388),ke P "rawtextLessThanSignState" 1020 (.ref 395),ke P "rawtextEndTagOpenState" 1027 (.ref 402),ke P "rawtextEndTagNameState" 1034 (.ref 409),ke P "scriptDataLessThanSignState" 1041 (.ref 416),ke P "scriptDataEndTagOpenState" 1048 (.ref 423),ke P "scriptDataEndTagNameState" 1055 (.ref 430),ke P "scriptDataEscapeStartState" 1062 (.ref 437),ke P "scriptDataEscapeStartDashState" 1069 (.ref 444),ke P "scriptDataEscapedState" 1076 (.ref 451),ke P "scriptDataEscapedDashState" 1083 (.ref 458),ke P "scriptDataEscapedDashDashState" 1090 (.ref 465),ke P "scriptDataEscapedLessThanSignState" 1097 (.ref 472),ke P "scriptDataEscapedEndTagOpenState" 1104 (.ref 479),ke P "scriptDataEscapedEndTagNameState" 1111 (.ref 486),ke P "scriptDataDoubleEscapeStartState" 1118 (.ref 493),ke P "scriptDataDoubleEscapedState" 1125 (.ref 500),ke P "scriptDataDoubleEscapedDashState" 1132 (.ref 507),ke P "scriptDataDoubleEscapedDashDashState" 1139 (.ref 514),ke P "scriptDataDoubleEscapedLessThanSignState" 1146 (.ref 521),ke P "scriptDataDoubleEscapeEndState" 1153 (.ref 528),ke P "beforeAttributeNameState" 1161 (.ref 535),ke P "attributeNameState" 1173 (.ref 542),ke P "afterAttributeNameState" 1181 (.ref 549),ke P "beforeAttributeValueState" 1189 (.ref 556),ke P "attributeValueDoubleQuotedState" 1197 (.ref 563),ke P "attributeValueSingleQuotedState" 1205 (.ref 570),ke P "attributeValueUnQuotedState" 1213 (.ref 577),ke P "afterAttributeValueState" 1221 (.ref 584),ke P "selfClosingStartTagState" 1229 (.ref 591),ke P "bogusCommentState" 1237 (.ref 598),ke P "markupDeclarationOpenState" 1247 (.ref 605),ke P "commentStartState" 1255 (.ref 612),ke P "commentStartDashState" 1263 (.ref 619),ke P "commentState" 1271 (.ref 626),ke P "commentEndDashState" 1279 (.ref 633),ke P "commentEndState" 1287 (.ref 640),ke P "commentEndBangState" 1295 (.ref 647),ke P "doctypeState" 1303 (.ref 654),ke P "beforeDoctypeNameState" 1311 (.ref 661),ke P "doctypeNameState" 1319 (.ref 668),ke P "afterDoctypeNameState" 1329 (.ref 675),ke P "afterDoctypePublicKeywordState" 1337 (.ref 682),ke P "beforeDoctypePublicIdentifierState" 1345 (.ref 689),ke P "doctypePublicIdentifierDoubleQuotedState" 1353 (.ref 696),ke P "doctypePublicIdentifierSingleQuotedState" 1361 (.ref 703),ke P "afterDoctypePublicIdentifierState" 1369 (.ref 710),ke P "betweenDoctypePublicAndSystemIdentifiersState" 1377 (.ref 717),ke P "afterDoctypeSystemKeywordState" 1385 (.ref 724),ke P "beforeDoctypeSystemIdentifierState" 1393 (.ref 731),ke P "doctypeSystemIdentifierDoubleQuotedState" 1401 (.ref 738),ke P "doctypeSystemIdentifierSingleQuotedState" 1409 (.ref 745),ke P "afterDoctypeSystemIdentifierState" 1417 (.ref 752),ke P "bogusDoctypeState" 1425 (.ref 759),ke P "__static_attributes__" 1434 (.ref 760),ke P "__dict__" 1436 (.ref 763),ke P "__weakref__" 1438 (.ref 764),ke P "__doc__" 1439 (.none)] 4,#[]⟩),
 (762,⟨.type "type",none,.cls {name:=Str.ofString "HTMLTokenizer",bases:=[.type "object"],mro:=[.ref 762,.type "object"],ns:=761,qualname:=Str.ofString "HTMLTokenizer"},#[some (.ref 247),none,some (.str (Str.ofString "HTMLTokenizer") 842),some (.str (Str.ofString "HTMLTokenizer") 850),some (.builtin "object.__new__"),some (.bool true)]⟩),
 (2,⟨.none,none,.dict #[] 0,#[]⟩),
 (22,⟨.type "tuple",none,.seq #[.str (Str.ofString "\t") 197,.str (Str.ofString "\n") 198,.str (Str.ofString "\x0c") 199,.str (Str.ofString " ") 200,.str (Str.ofString "\x0d") 201] 0,#[]⟩),
 (27,⟨.type "tuple",none,.seq #[.str (Str.ofString "a") 204,.str (Str.ofString "b") 205,.str (Str.ofString "c") 206,.str (Str.ofString "d") 207,.str (Str.ofString "e") 208,.str (Str.ofString "f") 209,.str (Str.ofString "g") 210,.str (Str.ofString "h") 211,.str (Str.ofString "i") 212,.str (Str.ofString "j") 213,.str (Str.ofString "k") 214,.str (Str.ofString "l") 215,.str (Str.ofString "m") 216,.str (Str.ofString "n") 217,.str (Str.ofString "o") 218,.str (Str.ofString "p") 219,.str (Str.ofString "q") 220,.str (Str.ofString "r") 221,.str (Str.ofString "s") 222,.str (Str.ofString "t") 223,.str (Str.ofString "u") 224,.str (Str.ofString "v") 225,.str (Str.ofString "w") 226,.str (Str.ofString "x") 227,.str (Str.ofString "y") 228,.str (Str.ofString "z") 229,.str (Str.ofString "A") 230,.str (Str.ofString "B") 231,.str (Str.ofString "C") 232,.str (Str.ofString "D") 233,.str (Str.ofString "E") 234,.str (Str.ofString "F") 235,.str (Str.ofString "G") 236,.str (Str.ofString "H") 237,.str (Str.ofString "I") 238,.str (Str.ofString "J") 239,.str (Str.ofString "K") 240,.str (Str.ofString "L") 241,.str (Str.ofString "M") 242,.str (Str.ofString "N") 243,.str (Str.ofString "O") 244,.str (Str.ofString "P") 245,.str (Str.ofString "Q") 246,.str (Str.ofString "R") 247,.str (Str.ofString "S") 248,.str (Str.ofString "T") 249,.str (Str.ofString "U") 250,.str (Str.ofString "V") 251,.str (Str.ofString "W") 252,.str (Str.ofString "X") 253,.str (Str.ofString "Y") 254,.str (Str.ofString "Z") 255] 0,#[]⟩),
 (32,⟨.type "tuple",none,.seq #[.str (Str.ofString "0") 258,.str (Str.ofString "1") 259,.str (Str.ofString "2") 260,.str (Str.ofString "3") 261,.str (Str.ofString "4") 262,.str (Str.ofString "5") 263,.str (Str.ofString "6") 264,.str (Str.ofString "7") 265,.str (Str.ofString "8") 266,.str (Str.ofString "9") 267] 0,#[]⟩),
 (37,⟨.type "tuple",none,.seq #[.str (Str.ofString "0") 270,.str (Str.ofString "1") 271,.str (Str.ofString "2") 272,.str (Str.ofString "3") 273,.str (Str.ofString "4") 274,.str (Str.ofString "5") 275,.str (Str.ofString "6") 276,.str (Str.ofString "7") 277,.str (Str.ofString "8") 278,.str (Str.ofString "9") 279,.str (Str.ofString "a") 280,.str (Str.ofString "b") 281,.str (Str.ofString "c") 282,.str (Str.ofString "d") 283,.str (Str.ofString "e") 284,.str (Str.ofString "f") 285,.str (Str.ofString "A") 286,.str (Str.ofString "B") 287,.str (Str.ofString "C") 288,.str (Str.ofString "D") 289,.str (Str.ofString "E") 290,.str (Str.ofString "F") 291] 0,#[]⟩),
 (49,⟨.type "tuple",none,.seq #[.int 3 539,.int 4 541,.int 5 543] 0,#[]⟩),
 (134,⟨.type "tuple",none,.seq #[.none] 0,#[]⟩),
 (149,⟨.type "tuple",none,.seq #[.bool false] 0,#[]⟩),
 (254,⟨.type "tuple",none,.seq #[.none] 0,#[]⟩),
 (48,⟨.type "dict",none,.dict #[ke P "Doctype" 532 (.int 0 533),ke P "Characters" 534 (.int 1 535),ke P "SpaceCharacters" 536 (.int 2 537),ke P "StartTag" 538 (.int 3 539),ke P "EndTag" 540 (.int 4 541),ke P "EmptyTag" 542 (.int 5 543),ke P "Comment" 544 (.int 6 545),ke P "ParseError" 546 (.int 7 547)] 8,#[]⟩)]
noncomputable def Sm (P:Params):Frag:=mK.map Jz++Pf P
noncomputable def Cj:List Nat:=mK.map (·.1)++[3,72,73,165,166,761,762,2,22,27,32,37,49,134,149,254,48]
noncomputable def rI:List Nat:=0::mK.map (·.1-1)
noncomputable def vW (e:DictEntry):Bool:=match e.key with
 |.str _ _=>true
 |_=>false
noncomputable def AW:V→Value
 |.blt i=>.builtin i
 |.typ n=>.type n
 |_=>.none
noncomputable def Lq (K:Frag):Bool×List (Option Value):=match K.lookup builtinsNs with
 |some ⟨_,_,.dict en _,_⟩=>(en.toList.all vW,rC.blts.map fun x=>rA (st x.1) en.toList)
 |_=>(false,[])
noncomputable def tO (K:Frag)(c:Nat):Option Str:=match K.lookup c with
 |some ⟨_,_,.fields vs,_⟩=>(match vs.toList with
  |_::.str n _::_=>some n
  |_=>none)
 |_=>none
noncomputable def Sn (K:Frag):List (Option Str):=mK.map fun x=>tO K (x.1-1)
noncomputable abbrev Tu:=Frag×List (Option Str)×(Bool×List (Option Value))×Bool
noncomputable def zC (K K2:Frag)(t:Nat):Tu:=(K,Sn K2,Lq K2,Nat.ble 1 t)
noncomputable def tP (w:World):Tu:=(Sm w.params,mK.map fun x=>some (nX x.2.1 k8.main.body).2,(true,rC.blts.map fun x=>some (AW x.2)),true)
end
section
noncomputable def k9:List Str:=[Str.ofString "_wall",Str.ofString "EOF",Str.ofString "spaceCharacters",Str.ofString "asciiLetters",Str.ofString "digits",Str.ofString "hexDigits",Str.ofString "asciiLower",Str.ofString "entities",Str.ofString "replacementCharacters",Str.ofString "tokenTypes",Str.ofString "tagTokenTypes",Str.ofString "Text",Str.ofString "_is_invalid",Str.ofString "HTMLUnicodeInputStream",Str.ofString "bisect_left",Str.ofString "Trie",Str.ofString "entitiesTrie",Str.ofString "HTMLTokenizer",Str.ofString "_law_NOTES",Str.ofString "_law_NAMES",Str.ofString "_law_KEYWORDS",Str.ofString "_law_QUOTED",Str.ofString "_law_BOGUS",Str.ofString "_law_ODD",Str.ofString "_law_WORDS",Str.ofString "_law_next",Str.ofString "_law_mend",Str.ofString "_law_small",Str.ofString "_law_told",Str.ofString "_law_add",Str.ofString "_law_plain",Str.ofString "_law_odd",Str.ofString "_law_dashes",Str.ofString "_law_note",Str.ofString "_law_comment",Str.ofString "_law_quoted",Str.ofString "_law_doctype",Str.ofString "_law_due",Str.ofString "_law_row"]
noncomputable def KA:Program:=view k8 [44]
theorem Pg (w:World):(Ci k8 (w.withFollow "special-get-raises" false) 20000).map (fun T=>(zB KA k9 (importedModules k8.main.body) (fun _=>true) true T.abs,zC (vV Cj T) (vV rI T) T.toks))=some (openGood KA k9,tP (w.withFollow "special-get-raises" false)):=by kernel_rfl
theorem Ph (w:World):(Ci k8 (w.withFollow "special-get-raises" true) 20000).map (fun T=>(zB KA k9 (importedModules k8.main.body) (fun _=>true) true T.abs,zC (vV Cj T) (vV rI T) T.toks))=some (openGood KA k9,tP (w.withFollow "special-get-raises" true)):=by kernel_rfl
theorem Ls:LeftO k8 KA k9 (fun _=>true) (fun s=>zC (oX Cj s) (oX rI s) s.toks) tP 20000:=IF fun w b=>match b with
 |false=>Pg w
 |true=>Ph w
end
section
noncomputable abbrev Ru:OpenLaw:=PySem.Challenge.rw_te0044_04
noncomputable abbrev pp:Program:=(Fast.tw2368527892694137696 PySem.Challenge.rw_te0044_04).prog
theorem d0:Fast.tw11788848310118352699 pp.main=true:=by kernel_rfl
theorem d2:Fast.tw12862048085361865435 (Fast.tw9807087744658564304 pp.main.body) pp.main.body=true:=by kernel_rfl
theorem d3:Fast.tw8377067652309620493 pp=true:=by kernel_rfl
theorem d4:(R.allR (Fast.tw18344453789297297638 pp) fun n=> !Fast.tw3471404346716756564 Fast.tw14412699480532031325 n)=true:=by kernel_rfl
theorem US:R.filterR (Fast.tw13343964577679436407 pp pp.main.body) [{cps:={toList:=[118,97,114,115]}},{cps:={toList:=[100,105,114]}},{cps:={toList:=[108,111,99,97,108,115]}}]=[]:=by kernel_rfl
theorem d6:(Fast.tw17119622794617984870 pp pp.main.body fun x n=>Fast.tw17868728402115742887 n)=true:=by kernel_rfl
noncomputable abbrev So (b:List Str):Look:={strict:= !R.allR (Fast.tw5923862056798008813 pp.main.body) (Fast.tw3471404346716756564 Fast.tw17691160309236699985),foot:=none,bare:=b}
theorem d5:Fast.tw8326940854005059898 (So []) pp.main.body=true:=by kernel_rfl
theorem UT:Fast.tw8326940854005059898 (So (R.filterR (Fast.tw13343964577679436407 pp pp.main.body) [{cps:={toList:=[118,97,114,115]}},{cps:={toList:=[100,105,114]}},{cps:={toList:=[108,111,99,97,108,115]}}])) pp.main.body=true:=(congrArg (fun b=>Fast.tw8326940854005059898 (So b) pp.main.body) US).trans d5
theorem d7:Fast.tw12908688711261696721 pp=true:=by
 delta Fast.tw12908688711261696721
 exact look_both (look_both (look_both (look_both (look_both d0 (by rw[d2];exact Bool.or_true _)) d3) d4) UT) d6
theorem Sp:Fast.tw2436336058641802641 (Fast.tw2368527892694137696 PySem.Challenge.rw_te0044_04)=true:=by
 delta Fast.tw2436336058641802641
 repeat' with_reducible refine look_both ?_ ?_
 ·exact d7
 all_goals kernel_rfl
theorem Sq:Fast.tw17960256430627541270 (Fast.tw2368527892694137696 PySem.Challenge.rw_te0044_04)=true:=by
 delta Fast.tw17960256430627541270
 repeat' with_reducible refine look_both ?_ ?_
 ·exact Sp
 all_goals as_aux_lemma=>kernel_rfl
theorem Lu:PySem.Challenge.rw_te0044_04.wellSaid=true:=by
 have e: @OpenLaw.wellSaid=PySem.W.Fast.tw9446332074065402090:=PySem.W.Fast.te9446332074065402090
 rw[e]
 delta PySem.W.Fast.tw9446332074065402090
 repeat' with_reducible refine look_both ?_ ?_
 ·exact Sq
 all_goals as_aux_lemma=>kernel_rfl
end
section
noncomputable def cN:Nm:=[116,101,120,116]
noncomputable def jM:Nm:=[112,108,97,99,101]
noncomputable def bQ:Nm:=VF
noncomputable def fF:Nm:=[110,101,119,76,105,110,101,115]
noncomputable def eG:Nm:=[100,97,116,97,83,116,114,101,97,109]
noncomputable def jN:Nm:=[99,104,117,110,107]
noncomputable def eY:Nm:=[99,104,117,110,107,83,105,122,101]
noncomputable def dU:Nm:=[99,104,117,110,107,79,102,102,115,101,116]
noncomputable def b5:Nm:=[101,114,114,111,114,115]
noncomputable def dG:Nm:=VK
noncomputable def dW:Nm:=[112,114,101,118,78,117,109,67,111,108,115]
noncomputable def b7:Nm:=VH
noncomputable def iS:Nm:=[115,101,108,102]
noncomputable def cX:Nm:=[100,97,116,97]
noncomputable def GW:Nm:=[99]
noncomputable def bC:Nm:=[115,105,122,101]
noncomputable def qF:Nm:=[112,97,114,116]
structure Stm where
 text:List Nat
 place:Nat
 chunk:List Nat
 off:Nat
 buf:Option Nat
noncomputable def IG:Option Nat→D
 |none=>.non
 |some c=>.str [c]
noncomputable def XL (text:List Nat)(p:Int):List O:=[.ins 73 1,.ns [(cN,.dat (.str text)),(jM,.dat (.int p))]]
noncomputable def SL (i j:Int)(r:Stm):List O:=
 [.ins 166 1,.ns [(bQ,.mth 148 0),(fF,.dat (.lst [.int 0])),(eG,.ref 2),(jN,.dat (.str r.chunk)),(eY,.dat (.int r.chunk.length)),(dU,.dat (.int r.off)),
  (b5,.dat (.lst [])),(dG,.dat (.int i)),(dW,.dat (.int j)),(b7,.dat (IG r.buf))],
  .ins 73 3,.ns [(cN,.dat (.str r.text)),(jM,.dat (.int r.place))]]
theorem Pi {a b:Bool}(h:a=true)(k:b=true):p9 a b=true:=(congrArg (fun x=>p9 x b) h).trans k
theorem Pj {t b:Bool}(h:b=t):GS t b=true:=(lQ t b).symm.trans (h▸beq_self_eq_true b)
theorem Ck {b:Bool}(h:b=false):(!b)=true:=h▸rfl
noncomputable def cg:List (Bool×Bool)→Bool
 | []=>true
 |p::r=>p9 (GS p.1 p.2) (cg r)
theorem aH:cg []=true:=rfl
theorem aA {t b:Bool}{r:List (Bool×Bool)}(h:b=t)(k:cg r=true):cg ((t,b)::r)=true:=Pi (Pj h) k
noncomputable def xO (c:Nat):Prop:=c=0∨c=9∨c=10∨c=13∨(32≤c∧c≤126)
noncomputable def UU (c:Int):List (Bool×Bool):=[(false,!kG c 55296),(false,fX (.int (Int.fmod c 65536)) [.int 65534,.int 65535]),(false,!kG c 64976),(false,!kG c 127),(false,!kG 31 c),(true,!kG c 14),(false,rB c 11),(false,!kG 8 c),(true,!kG c 1)]
theorem Lw:∀ c<127,32≤c→cg (UU (Int.ofNat c))=true:=by decide+kernel
section
variable (z:c8)
theorem Pk {i j:Int}{r:Stm}{off:Nat}:∃ i' j',CallOk z.c 1 119 [.ref 0,.dat (.int off)] (SL i j r) (.dat (.tup [.int i',.int j'])) (SL i j r):=by
 cases h:GU (D.int (Bb r.chunk [10] 0 off)) (D.int (-1))with
 |true=>exact⟨i+Gz r.chunk [10] 0 off,j+off,z.use (hs:=[.tst 56011028 true]) (o:=.fz [] []) (aA h aH) trivial (by kernel_rfl)⟩
 |false=>exact⟨i+Gz r.chunk [10] 0 off,off - (Bb r.chunk [10] 0 off+1),z.use (hs:=[.tst 56011028 false]) (o:=.fz [] []) (aA h aH) trivial (by kernel_rfl)⟩
theorem AX {c:Nat}(hc:xO c):CallOk z.c 1 84 [.dat (.int c)] [] (.dat (.boo false)) []:=by
 rcases hc with rfl|rfl|rfl|rfl|h
 ·exact z.use (hs:=[]) (o:=.fz [] []) rfl trivial (by kernel_rfl)
 ·exact z.use (hs:=[]) (o:=.fz [] []) rfl trivial (by kernel_rfl)
 ·exact z.use (hs:=[]) (o:=.fz [] []) rfl trivial (by kernel_rfl)
 ·exact z.use (hs:=[]) (o:=.fz [] []) rfl trivial (by kernel_rfl)
 ·exact z.use (hs:=[.tst 28011012 true,.tst 28011030 false,.tst 28034049 false,.tst 28053055 true,.tst 28053074 false,.tst 28079082 false,.tst 28108113 false,.tst 28141176 false,.tst 28182187 false]) (o:=.fz [] []) (Lw c (Nat.lt_succ_of_le h.2) h.1) trivial (by kernel_rfl)
noncomputable def Co:Fn:=kL k8 [15,8] []
noncomputable def rY:ForI:=vR (nW Co.body 0)
noncomputable def EL (i j:Int)(r:Stm)(d:Nm)(eo:List (Nm×V)):List O:=SL i j r++[.fr ([(iS,.ref 0),(cX,.dat (.str d))]++eo)]
theorem Lx {i j:Int}{r:Stm}{d:Nm}(hd:∀ c∈d,xO c):CallOk z.c 2 148 [.ref 0,.dat (.str d)] (SL i j r) (.dat .non) (SL i j r):=by
 have loop:∀ (t:Nm) (k:Nat) (eo:List (Nm×V)),d.drop k=t→(eo=[]∨∃ v,eo=[(GW,v)])→∃ eo',ForR z.c Co.names 1 ⟨4,[]⟩ rY.g rY.b 5 (.dat (.str d)) (t.length+1) k (EL i j r d eo) .next (EL i j r d eo'):=by
  intro t
  induction t with
  |nil=>exact fun k eo h _=>⟨eo,.stop rfl (by rw[pX,List.getElem?_map,List.getElem?_eq_none (List.drop_eq_nil_iff.mp h)];rfl)⟩
  |cons c t ih=>
   intro k eo h ho
   have hk:d[k]? =some c:=by have:=congrArg (·[0]?) h;simpa using this
   have ht:d.drop (k+1)=t:=by rw[← List.drop_drop,h];rfl
   obtain⟨eo',q⟩:=ih (k+1) [(GW,.dat (.str [c]))] ht (.inr ⟨_,rfl⟩)
   have g:(pX d)[k]? =some (.dat (.str [c])):=by rw[pX,List.getElem?_map,hk];rfl
   have e:lO ⟨4,[]⟩ rY.y.cps.toList (.dat (.str [c])) (EL i j r d eo)=some (EL i j r d [(GW,.dat (.str [c]))]):=by
    rcases ho with rfl|⟨v,rfl⟩<;>kernel_rfl
   have b:RX z.c Co.names 1 ⟨4,[]⟩ (EL i j r d [(GW,.dat (.str [c]))]) rY.b .next (EL i j r d [(GW,.dat (.str [c]))]):=
    z.useX (hs:=[.cal 84 1 [] (.dat (.boo false)) []]) (g:=true) (ob:=CallOk z.c 1 84 [.dat (.int c)] [] (.dat (.boo false)) []∧True) rfl ⟨AX z (hd c (List.mem_of_getElem? hk)),trivial⟩ (by kernel_rfl)
   exact⟨eo',.turn rfl g (cM (by kernel_rfl) e) b rfl .id q⟩
 obtain⟨eo',q⟩:=loop d 0 [] rfl (.inl rfl)
 have h1:RE z.c Co.names 1 ⟨4,[]⟩ (EL i j r d []) rY.i (.dat (.str d)) (EL i j r d []):=z.useE (hs:=[]) rfl trivial (by kernel_rfl)
 exact z.use (hs:=[.stm 101 .next (EL i j r d eo')]) (o:=.fz [] []) (g:=true) (ob:=RS z.c Co.names 1 ⟨4,[]⟩ (EL i j r d []) rY.s .next (EL i j r d eo')∧True) rfl ⟨kJ (fun _ _=>rfl) h1 rfl rfl q,trivial⟩ (by kernel_rfl)
theorem Cp {α:Type}(xs:List α)(p k:Nat)(h1:p≤xs.length)(h:xs.length≤p+k):cut xs (some (p:Int)) (some ((p:Int)+(k:Int)))=xs.drop p:=by
 show(xs.drop (mn p xs.length)).take (mn (p+k) xs.length-mn p xs.length)=_
 rw[nU,nU,Nat.min_eq_left h1,Nat.min_eq_right h]
 exact List.take_of_length_le (Nat.le_of_eq List.length_drop)
theorem Cq {text:Nm}{p:Nat}(h1:p≤text.length)(h2:text.length≤10240):CallOk z.c 1 70 [.ref 0,.dat (.int 10240)] (XL text p) (.dat (.str (text.drop p))) (XL text text.length):=
 z.use (hs:=[.val 24015054 (.dat (.str (text.drop p))),.led 26 (XL text text.length++[.fr [(iS,.ref 0),(bC,.dat (.int 10240)),(qF,.dat (.str (text.drop p)))]])]) (o:=.fz [] [])
  (g:=cg [(true,Nat.ble (text.drop p).length lim),(true,Nat.ble text.length lim)])
  (ob:=XL text ((p:Int)+((text.drop p).length:Int))++[.fr [(iS,.ref 0),(bC,.dat (.int 10240)),(qF,.dat (.str (text.drop p)))]]=XL text text.length++[.fr [(iS,.ref 0),(bC,.dat (.int 10240)),(qF,.dat (.str (text.drop p)))]]∧V.dat (.str (cut text (some (p:Int)) (some ((p:Int)+10240))))=V.dat (.str (text.drop p))∧True)
  (aA (Nat.ble_eq_true_of_le (by rw[List.length_drop];show _≤1048576;omega)) (aA (Nat.ble_eq_true_of_le (by show _≤1048576;omega)) aH))
  ⟨by rw[show(p:Int)+((text.drop p).length:Int)=(text.length:Int) by rw[List.length_drop];omega],by rw[show(10240:Int)=((10240:Nat):Int)from rfl,Cp text p 10240 h1 (by omega)],trivial⟩ (by kernel_rfl)
end
end
section
noncomputable def dQ (d:Nm):Nm:=dL [13] [10] 0 (dL [13,10] [10] 0 d)
theorem Cr {d:Nm}(h:d.length≤20000):(dL [13,10] [10] 0 d).length≤20000:=Nat.le_trans (hF (by simp) (by simp) _ _ (Nat.le_refl _)) h
theorem zD {d:Nm}(h:d.length≤20000):(dQ d).length≤20000:=Nat.le_trans (hF (by simp) (by simp) _ _ (Nat.le_refl _)) (Cr h)
theorem li {n:Nat}(h:n≤20000):Nat.ble n lim=true:=Nat.ble_eq_true_of_le (Nat.le_trans h (by decide))
structure Stm.Ok (r:Stm):Prop where
 pl:r.place≤r.text.length
 len:r.text.length≤10240
 sg:∀ c∈r.text,xO c
 buf:r.buf=none∨(r.buf=some 13∧r.place=r.text.length)
 off:r.off≤r.chunk.length
 chk:r.chunk.length≤20000
noncomputable def Stm.rest (r:Stm):Nm:=r.buf.toList++r.text.drop r.place
noncomputable abbrev mt (t:Nm)(b:Option Nat):Stm:=⟨t,t.length,[],0,b⟩
noncomputable abbrev IH (t d:Nm)(b:Option Nat):Stm:=⟨t,t.length,dQ d,0,b⟩
section
variable {z:c8}{i j i1 j1:Int}{t:Nm}{p o:Nat}{ck:Nm}{b:Option Nat}{d:Nm}
noncomputable abbrev CP (z:c8)(i j i1 j1:Int)(r:Stm):Prop:=CallOk z.c 1 119 [.ref 0,.dat (.int r.chunk.length)] (SL i j r) (.dat (.tup [.int i1,.int j1])) (SL i j r)
noncomputable abbrev tQ (z:c8)(t:Nm)(p:Nat)(d:Nm):Prop:=CallOk z.c 1 70 [.ref 0,.dat (.int 10240)] (XL t p) (.dat (.str d)) (XL t t.length)
noncomputable abbrev CE (z:c8)(i1 j1:Int)(t d:Nm)(b:Option Nat):Prop:=CallOk z.c 2 148 [.ref 0,.dat (.str d)] (SL i1 j1 (mt t b)) (.dat .non) (SL i1 j1 (mt t b))
noncomputable abbrev CH (z:c8)(i j:Int)(r:Stm)(k:Bool)(i1 j1:Int)(r':Stm):Prop:=CallOk z.c 3 141 [.ref 0] (SL i j r) (.dat (.boo k)) (SL i1 j1 r')
noncomputable abbrev Cs (i j i1 j1:Int)(r:Stm):Hi:=.cal 119 1 [0,1,2,3] (.dat (.tup [.int i1,.int j1])) (SL i j r)
noncomputable abbrev Pm (t d:Nm):Hi:=.cal 70 1 [2,3] (.dat (.str d)) (XL t t.length)
noncomputable abbrev II (i1 j1:Int)(t:Nm)(b:Option Nat):Hi:=.cal 148 2 [0,1,2,3] (.dat .non) (SL i1 j1 (mt t b))
noncomputable abbrev gM (d:Nm):List (Bool×Bool):=[(true,Nat.ble (dQ d).length lim),(true,Nat.ble (dL [13,10] [10] 0 d).length lim),(true,Nat.ble d.length lim)]
theorem Ct {d:Nm}{r:List (Bool×Bool)}(h:d.length≤20000)(k:cg r=true):cg (gM d++r)=true:=aA (li (zD h)) (aA (li (Cr h)) (aA (li h) k))
theorem Ly (h1:CP z i j i1 j1 ⟨t,p,ck,o,none⟩)(h2:tQ z t p []):CH z i j ⟨t,p,ck,o,none⟩ false i1 j1 (mt t none):=
 z.use (hs:=[Cs i j i1 j1 ⟨t,p,ck,o,none⟩,Pm t []]) (o:=.fz [] []) (g:=true) rfl (an h2 (an h1 trivial)) (by kernel_rfl)
theorem Lz {c:Nat}(h1:CP z i j i1 j1 ⟨t,p,ck,o,none⟩)(h2:tQ z t p [c])(h3:CE z i1 j1 t [c] none):CH z i j ⟨t,p,ck,o,none⟩ true i1 j1 (IH t [c] none):=
 z.use (hs:=[Cs i j i1 j1 ⟨t,p,ck,o,none⟩,Pm t [c],II i1 j1 t none]) (o:=.fz [] []) (g:=cg (gM [c])) (Ct (by simp) aH) (an h3 (an h2 (an h1 trivial))) (by kernel_rfl)
theorem MA (h1:CP z i j i1 j1 ⟨t,p,ck,o,some 13⟩)(h2:tQ z t p [])(h3:CE z i1 j1 t [13] none):CH z i j ⟨t,p,ck,o,some 13⟩ true i1 j1 (IH t [13] none):=
 z.use (hs:=[Cs i j i1 j1 ⟨t,p,ck,o,some 13⟩,Pm t [],II i1 j1 t none]) (o:=.fz [] []) (g:=cg (gM [13])) rfl (an h3 (an h2 (an h1 trivial))) (by kernel_rfl)
theorem jO {c:Cx}{n:Nat}{x:Nm}{k:Int}{a:Nat}(e:rE x k=some a)(g:gH k=true)(hp:List O):bZ c n hp getItem c.VT (.dat (.str x)) (.dat (.int k)) (.dat (.str [a])) hp:=(w0 c n hp x k a e).ok g
theorem zE {α:Type}(xs:List α)(x:α):rE (xs++[x]) (-1)=some x:=by
 show(nH (.negSucc 0) (xs++[x]).length).bind _=_
 have:nH (.negSucc 0) (xs++[x]).length=some xs.length:=by
  show(match Nat.ble 1 (xs++[x]).length with|true=>_|false=>_)=_
  rw[List.length_append]
  rfl
 rw[this]
 exact List.getElem?_concat_length
theorem Cu {α:Type}(xs:List α)(x:α):cut (xs++[x]) none (some (-1))=xs:=by
 show(xs++[x]).take ((xs++[x]).length-1-0)=xs
 rw[List.length_append]
 exact List.take_left
theorem IJ {c l:Nat}{d':Nm}(e:c::d'=d)(e1:rE d (-1)=some l)(hl:d.length≤20000)(h2l:1<d.length)(hc:xO l)(n13:l≠13)(h1:CP z i j i1 j1 ⟨t,p,ck,o,none⟩)(h2:tQ z t p d)(h3:CE z i1 j1 t d none):CH z i j ⟨t,p,ck,o,none⟩ true i1 j1 (IH t d none):=by
 subst e
 exact z.use (hs:=[Cs i j i1 j1 ⟨t,p,ck,o,none⟩,Pm t (c::d'),.tst 87011024 true,.sub 88024032 (.dat (.str [l])),.tst 89015026 false,.tst 89030035 false,II i1 j1 t none]) (o:=.fz [] [])
  (g:=cg (gM (c::d')++[(false,!kG l 55296),(false,rB l 13),(true,kG 1 (c::d').length),(true,Nat.ble (c::d').length lim),(true,Nat.ble (c::d').length lim)]))
  (ob:=CE z i1 j1 t (c::d') none∧(∀ hp,bZ z.c 2 hp getItem z.c.VT (.dat (.str (c::d'))) (.dat (.int (-1))) (.dat (.str [l])) hp)∧tQ z t p (c::d')∧CP z i j i1 j1 ⟨t,p,ck,o,none⟩∧True)
  (Ct hl (aA (by rw[← f8];exact congrArg (!·) (decide_eq_true (by unfold xO at hc;omega))) (aA (by rw[← eQ];exact beq_eq_false_iff_ne.mpr (by omega)) (aA (by rw[← f8];exact decide_eq_true (by omega)) (aA (li hl) (aA (li hl) aH))))))
  ⟨h3,jO e1 rfl,h2,h1,trivial⟩ (by kernel_rfl)
theorem Pn {c:Nat}{d' init:Nm}(e:c::d'=init++[13])(hl:(init++[13]).length≤20000)(h2l:1 < (init++[13]).length)(h1:CP z i j i1 j1 ⟨t,p,ck,o,none⟩)(h2:tQ z t p (init++[13]))(h3:CE z i1 j1 t init (some 13)):CH z i j ⟨t,p,ck,o,none⟩ true i1 j1 (IH t init (some 13)):=by
 have e1:=zE init 13
 have e2:=Cu init 13
 have hi:init.length≤20000:=by rw[List.length_append]at hl;omega
 rw[← e]at hl h2l h2 e1 e2
 exact z.use (hs:=[Cs i j i1 j1 ⟨t,p,ck,o,none⟩,Pm t (c::d'),.tst 87011024 true,.sub 88024032 (.dat (.str [13])),.sub 90042050 (.dat (.str [13])),.val 91023032 (.dat (.str init)),II i1 j1 t (some 13)]) (o:=.fz [] [])
  (g:=cg (gM init++[(true,Nat.ble (c::d').length lim),(true,kG 1 (c::d').length),(true,Nat.ble (c::d').length lim),(true,Nat.ble (c::d').length lim)]))
  (ob:=CE z i1 j1 t init (some 13)∧V.dat (.str (cut (c::d') none (some (-1))))=V.dat (.str init)∧(∀ hp,bZ z.c 2 hp getItem z.c.VT (.dat (.str (c::d'))) (.dat (.int (-1))) (.dat (.str [13])) hp)∧(∀ hp,bZ z.c 2 hp getItem z.c.VT (.dat (.str (c::d'))) (.dat (.int (-1))) (.dat (.str [13])) hp)∧tQ z t p (c::d')∧CP z i j i1 j1 ⟨t,p,ck,o,none⟩∧True)
  (Ct hi (aA (li hl) (aA (by rw[← f8];exact decide_eq_true (by omega)) (aA (li hl) (aA (li hl) aH)))))
  ⟨h3,congrArg (fun x=>V.dat (.str x)) e2,jO e1 rfl,jO e1 rfl,h2,h1,trivial⟩ (by kernel_rfl)
end
end
section
noncomputable def md:Bool→Nm→Nm
 |_,[]=>[]
 |b,c::r=>bif Nat.beq c 13 then 10::md true r else bif b&&Nat.beq c 10 then md false r else c::md false r
theorem hJ (b:Bool)(c:Nat)(r:Nm):md b (c::r)=bif Nat.beq c 13 then 10::md true r else bif b&&Nat.beq c 10 then md false r else c::md false r:=rfl
noncomputable def IK:Bool→Nm→Bool
 |b,[]=>b
 |_,c::r=>IK (Nat.beq c 13) r
theorem zF {a b:Nat}(h:a≠b):Nat.beq a b=false:=by rw[Gn];exact decide_eq_false h
theorem nL:∀ (b:Bool) (x y:Nm),md b (x++y)=md b x++md (IK b x) y
 |_,[],_=>rfl
 |b,c::r,y=>by
  show md b (c::(r++y))=md b (c::r)++md (IK (Nat.beq c 13) r) y
  rw[hJ,hJ]
  cases e:Nat.beq c 13 with
  |true=>exact congrArg (10::·) (nL true r y)
  |false=>cases(b&&Nat.beq c 10)with
   |true=>exact nL false r y
   |false=>exact congrArg (c::·) (nL false r y)
theorem Cv (l:Nm)(c:Nat):dL [13] [10] 0 (c::l)=(if c=13 then 10 else c)::dL [13] [10] 0 l:=by
 rw[dL]
 by_cases h:c=13
 ·subst h;simp[List.isPrefixOf]
 ·rw[if_neg (by simp[List.isPrefixOf,Ne.symm h]),if_neg h]
theorem mL:∀ (n:Nat) (d:Nm),d.length≤n→dQ d=md false d
 |_,[],_=>rfl
 |0,_::_,h=>absurd h (by simp)
 |n+1,c::r,h=>by
  have hr:r.length≤n:=by simpa using h
  unfold dQ
  by_cases q:c=13
  ·subst q
   cases r with
   |nil=>rfl
   |cons k r'=>
    by_cases e:k=10
    ·subst e
     have h1:dL [13,10] [10] 0 (13::10::r')=10::dL [13,10] [10] 0 r':=by
      rw[dL,if_pos (by simp[List.isPrefixOf])];rfl
     rw[h1,Cv,if_neg (by decide)]
     exact congrArg (10::·) (mL n r' (Nat.le_of_succ_le hr))
    ·have h1:dL [13,10] [10] 0 (13::k::r')=13::dL [13,10] [10] 0 (k::r'):=by
      rw[dL,if_neg (by simp[List.isPrefixOf,Ne.symm e])]
     rw[h1,Cv,if_pos rfl]
     refine congrArg (10::·) ((mL n (k::r') hr).trans ?_)
     rw[hJ,hJ,zF e]
     rfl
  ·have h1:dL [13,10] [10] 0 (c::r)=c::dL [13,10] [10] 0 r:=by
    rw[dL,if_neg (by simp[List.isPrefixOf,Ne.symm q])]
   rw[h1,Cv,if_neg q]
   refine(congrArg (c::·) (mL n r hr)).trans ?_
   rw[hJ,zF q]
   rfl
theorem jA (d:Nm):dQ d=md false d:=mL d.length d (Nat.le_refl _)
theorem Cw (init:Nm):dQ init++dQ [13]=dQ (init++[13]):=by
 rw[jA,jA,jA,nL]
 exact congrArg (md false init++·) (by cases IK false init <;>rfl)
theorem Po (b:Bool){c:Nat}{r:Nm}(h:b=false):md b (c::r)≠[]:=by
 subst h
 rw[hJ]
 cases Nat.beq c 13 with
 |true=>exact nofun
 |false=>exact nofun
theorem vX {d:Nm}(h:d≠[]):dQ d≠[]:=by
 rw[jA]
 cases d with
 |nil=>exact absurd rfl h
 |cons c r=>exact Po false rfl
structure Rd (z:c8) (i j:Int) (r r':Stm):Prop where
 call:∃ i1 j1,CH z i j r true i1 j1 r'
 ok:r'.Ok
 off:r'.off=0
 ne:r'.chunk≠[]
 eq:r'.chunk++dQ r'.rest=dQ r.rest
 less:r'.rest.length<r.rest.length
section
variable {z:c8}{i j:Int}
theorem tR (t:Nm)(c:Nm)(b:Option Nat):(⟨t,t.length,c,0,b⟩:Stm).rest=b.toList:=by
 show b.toList++t.drop t.length=_
 rw[List.drop_length,List.append_nil]
theorem vY (z:c8){i j:Int}{r:Stm}:∃ i1 j1,CP z i j i1 j1 r:=Pk z
theorem oY {i1 j1:Int}{t d:Nm}{b:Option Nat}(h:∀ c∈d,xO c):CE z i1 j1 t d b:=Lx z h
theorem vZ {r:Stm}(ok:r.Ok)(h:r.rest=[]):∃ i1 j1,CH z i j r false i1 j1 (mt r.text none):=by
 obtain⟨t,p,ck,o,b⟩:=r
 obtain⟨i1,j1,h1⟩:=vY z (i:=i) (j:=j) (r:=⟨t,p,ck,o,b⟩)
 have hd:t.drop p=[]:=(List.append_eq_nil_iff.mp h).2
 have hb:=(List.append_eq_nil_iff.mp h).1
 have h2:tQ z t p []:=hd▸Cq z ok.pl ok.len
 cases b with
 |some c=>cases hb
 |none=>exact⟨i1,j1,Ly h1 h2⟩
theorem rZ {r:Stm}(ok:r.Ok)(h:r.rest≠[]):∃ r',Rd z i j r r':=by
 obtain⟨t,p,ck,o,b⟩:=r
 obtain⟨i1,j1,h1⟩:=vY z (i:=i) (j:=j) (r:=⟨t,p,ck,o,b⟩)
 have hs:∀ c∈t.drop p,xO c:=fun c m=>ok.sg c (List.mem_of_mem_drop m)
 have h2:tQ z t p (t.drop p):=Cq z ok.pl ok.len
 have hl:(t.drop p).length≤10240:=by rw[List.length_drop];have:=ok.len;exact Nat.le_trans (Nat.sub_le _ _) this
 have mk:∀ (d:Nm) (b:Option Nat),(b=none∨b=some 13)→d≠[]→d.length≤20000→(IH t d b).Ok∧(IH t d b).off=0∧(IH t d b).chunk≠[]∧(IH t d b).rest=b.toList:=fun d b hb hn hl=>
  ⟨⟨Nat.le_refl _,ok.len,ok.sg,hb.imp id fun e=>⟨e,rfl⟩,Nat.zero_le _,zD hl⟩,rfl,vX hn,tR ..⟩
 rcases ok.buf with hb|⟨hb,hp⟩
 ·have hb:b=none:=hb
  subst hb
  have h:t.drop p≠[]:=h
  have hr:(⟨t,p,ck,o,none⟩:Stm).rest=t.drop p:=rfl
  generalize t.drop p=d at *
  have iJ:∀ d' b,CH z i j ⟨t,p,ck,o,none⟩ true i1 j1 (IH t d' b)→(b=none∨b=some 13)→d'≠[]→d'.length≤20000→dQ d'++dQ b.toList=dQ d→b.toList.length<d.length→∃ r',Rd z i j ⟨t,p,ck,o,none⟩ r':=fun d' b c hb hn hl he hlt=>
   have m:=mk d' b hb hn hl
   ⟨_,⟨i1,j1,c⟩,m.1,m.2.1,m.2.2.1,by rw[m.2.2.2,hr];exact he,by rw[m.2.2.2,hr];exact hlt⟩
  have nil:dQ (none:Option Nat).toList=[]:=rfl
  rcases List.eq_nil_or_concat d with rfl|⟨init,l,rfl⟩
  ·exact absurd rfl h
  rw[List.concat_eq_append]at *
  cases init with
  |nil=>exact iJ _ _ (Lz h1 h2 (oY hs)) (.inl rfl) nofun (by simp) (List.append_nil _) (by simp)
  |cons c init=>
   have h1l:1 < ((c::init)++[l]).length:=by simp
   have hl':((c::init)++[l]).length≤20000:=Nat.le_trans hl (by decide)
   by_cases e:l=13
   ·subst e
    exact iJ (c::init) (some 13) (Pn (c:=c) (d':=init++[13]) rfl hl' h1l h1 h2 (oY fun x m=>hs x (List.mem_append_left _ m))) (.inr rfl) nofun (Nat.le_trans (by simp) hl') (Cw _) (by simp)
   ·exact iJ ((c::init)++[l]) none (IJ (c:=c) (d':=init++[l]) rfl (zE (c::init) l) hl' h1l (hs l (List.mem_append_right _ (.head _))) e h1 h2 (oY hs)) (.inl rfl) nofun hl' (List.append_nil _) (by simp)
 ·have hb:b=some 13:=hb
  subst hb
  have hd:t.drop p=[]:=(congrArg t.drop (show p=t.length from hp)).trans List.drop_length
  rw[hd]at h2
  have m:=mk [13] none (.inl rfl) nofun (by simp)
  have hr:(⟨t,p,ck,o,some 13⟩:Stm).rest=[13]:=congrArg (13::·) hd
  exact⟨_,⟨i1,j1,MA h1 h2 (oY fun c m=>by rw[List.mem_singleton.mp m];exact .inr (.inr (.inr (.inl rfl))))⟩,m.1,m.2.1,m.2.2.1,by
   rw[m.2.2.2,hr]
   exact List.append_nil _,by
   rw[m.2.2.2,hr]
   exact Nat.succ_pos _⟩
end
end
section
noncomputable def xP:Nm:=[99,104,97,114]
noncomputable def Pre (a b:Nm):Prop:=(∃ z,a=b++z)∨∃ z,b=a++z
structure At' (r:Stm) (ms l:Nm):Prop where
 ok:r.Ok
 len:l.length≤15000
 eq:l=r.chunk.drop r.off++dQ r.rest
 pre:Pre (r.chunk.take r.off).reverse ms
theorem Pre.nil {a:Nm}:Pre a []:=.inl ⟨a,rfl⟩
theorem Pre.top {ms:Nm}:Pre [] ms:=.inr ⟨ms,rfl⟩
theorem Pre.cons {c:Nat}{a ms:Nm}:Pre a ms→Pre (c::a) (c::ms)
 |.inl ⟨y,e⟩=>.inl ⟨y,congrArg (c::·) e⟩
 |.inr ⟨y,e⟩=>.inr ⟨y,congrArg (c::·) e⟩
theorem Pre.tail {c d:Nat}{a ms:Nm}:Pre (c::a) (d::ms)→c=d∧Pre a ms
 |.inl ⟨y,e⟩=>(List.cons.inj e).imp id fun e=>.inl ⟨y,e⟩
 |.inr ⟨y,e⟩=>(List.cons.inj e).imp Eq.symm fun e=>.inr ⟨y,e⟩
theorem At'.none {r:Stm}{ms l:Nm}(h:At' r ms l):At' r [] l:=⟨h.ok,h.len,h.eq,.nil⟩
theorem AY {d:Nm}(h:dQ d=[]):d=[]:=Classical.byContradiction fun q=>vX q h
theorem At'.chk {r:Stm}{ms l:Nm}(h:At' r ms l):r.chunk.length-r.off≤15000:=by
 have:=congrArg List.length h.eq
 rw[List.length_append,List.length_drop]at this
 have:=h.len
 omega
noncomputable abbrev bR (z:c8)(i j:Int)(r:Stm)(v:V)(i1 j1:Int)(r':Stm):Prop:=CallOk z.c 4 133 [.ref 0] (SL i j r) v (SL i1 j1 r')
noncomputable abbrev dH (z:c8)(i j:Int)(r:Stm)(v:V)(r':Stm):Prop:=CallOk z.c 1 163 [.ref 0,v] (SL i j r) (.dat .non) (SL i j r')
noncomputable abbrev OA (k:Bool)(i1 j1:Int)(r:Stm):Hi:=.cal 141 3 [0,1,2,3] (.dat (.boo k)) (SL i1 j1 r)
section
variable {z:c8}{i j i1 j1:Int}{t ck:Nm}{p o:Nat}{b:Option Nat}
theorem oZ {α:Type}(xs:List α){k:Nat}{x:α}(h:xs[k]? =some x):rE xs (k:Int)=some x:=by
 have hl:=(List.getElem?_eq_some_iff.mp h).1
 show(match Nat.blt k xs.length with|true=>some k|false=>none).bind _=_
 rw[show Nat.blt k xs.length=true from Nat.ble_eq_true_of_le hl]
 exact h
theorem AZ {c:Nat}(h:ck[o]? =some c)(hl:ck.length≤20000):bR z i j ⟨t,p,ck,o,b⟩ (.dat (.str [c])) i j ⟨t,p,ck,o+1,b⟩:=
 have lt:=(List.getElem?_eq_some_iff.mp h).1
 z.use (hs:=[.tst 66011045 false,.sub 70015038 (.dat (.str [c]))]) (o:=.fz [] []) (g:=cg [(false,!kG o ck.length)])
  (ob:=(∀ hp,bZ z.c 3 hp getItem z.c.VT (.dat (.str ck)) (.dat (.int o)) (.dat (.str [c])) hp)∧True)
  (aA (by rw[← f8];exact congrArg (!·) (decide_eq_true (by omega))) aH) ⟨jO (oZ ck h) (li (by omega)),trivial⟩ (by kernel_rfl)
theorem Aa {c:Nat}{r':Nm}(h:ck.length≤o){b1:Option Nat}{t1:Nm}{p1:Nat}(hr:CH z i j ⟨t,p,ck,o,b⟩ true i1 j1 ⟨t1,p1,c::r',0,b1⟩):bR z i j ⟨t,p,ck,o,b⟩ (.dat (.str [c])) i1 j1 ⟨t1,p1,c::r',1,b1⟩:=
 z.use (hs:=[.tst 66011045 true,OA true i1 j1 ⟨t1,p1,c::r',0,b1⟩]) (o:=.fz [] []) (g:=cg [(true,!kG o ck.length)]) (aA (by rw[← f8];exact congrArg (!·) (decide_eq_false (by omega))) aH) (an hr trivial) (by kernel_rfl)
theorem Cy (h:ck.length≤o){r':Stm}(hr:CH z i j ⟨t,p,ck,o,b⟩ false i1 j1 r'):bR z i j ⟨t,p,ck,o,b⟩ (.dat .non) i1 j1 r':=
 z.use (hs:=[.tst 66011045 true,OA false i1 j1 r']) (o:=.fz [] []) (g:=cg [(true,!kG o ck.length)]) (aA (by rw[← f8];exact congrArg (!·) (decide_eq_false (by omega))) aH) (an hr trivial) (by kernel_rfl)
theorem aO {r:Stm}{ms l:Nm}{c:Nat}(h:At' r ms (c::l)):∃ i1 j1 r',bR z i j r (.dat (.str [c])) i1 j1 r'∧At' r' (c::ms) l:=by
 obtain⟨t,p,ck,o,b⟩:=r
 have he:c::l=ck.drop o++dQ (⟨t,p,ck,o,b⟩:Stm).rest:=h.eq
 have hle:l.length≤15000:=Nat.le_of_succ_le h.len
 cases q:ck[o]? with
 |some k=>
  have hl:=(List.getElem?_eq_some_iff.mp q).1
  have hd:ck.drop o=k::ck.drop (o+1):=by rw[List.drop_eq_getElem_cons hl,(List.getElem?_eq_some_iff.mp q).2]
  rw[hd]at he
  obtain⟨rfl,he'⟩:=List.cons.inj he
  refine⟨i,j,_,AZ q h.ok.chk,⟨h.ok.pl,h.ok.len,h.ok.sg,h.ok.buf,hl,h.ok.chk⟩,hle,he',?_⟩
  show Pre (ck.take (o+1)).reverse (c::ms)
  rw[List.take_add_one,q,Option.toList_some,List.reverse_append]
  exact h.pre.cons
 |none=>
  have hl:=List.getElem?_eq_none_iff.mp q
  rw[List.drop_of_length_le hl,List.nil_append]at he
  obtain⟨⟨t1,p1,ck1,o1,b1⟩,⟨i1,j1,hc⟩,ok,ho,hn,hq,_⟩:=rZ (z:=z) (i:=i) (j:=j) h.ok (by intro e;rw[e]at he;cases he)
  have ho:o1=0:=ho
  subst ho
  have hq:ck1++dQ (⟨t1,p1,ck1,0,b1⟩:Stm).rest=dQ (⟨t,p,ck,o,b⟩:Stm).rest:=hq
  rw[← he]at hq
  cases ck1 with
  |nil=>exact absurd rfl hn
  |cons k r'=>
   obtain⟨rfl,hq'⟩:=List.cons.inj hq
   exact⟨i1,j1,_,Aa hl hc,⟨ok.pl,ok.len,ok.sg,ok.buf,Nat.succ_le_succ (Nat.zero_le _),ok.chk⟩,hle,hq'.symm,Pre.top.cons⟩
theorem aN {r:Stm}{ms:Nm}(h:At' r ms []):∃ i1 j1 r',bR z i j r (.dat .non) i1 j1 r'∧∀ ms',At' r' ms' []:=by
 obtain⟨t,p,ck,o,b⟩:=r
 have he:=List.append_eq_nil_iff.mp h.eq.symm
 obtain⟨i1,j1,hc⟩:=vZ (z:=z) (i:=i) (j:=j) h.ok (AY he.2)
 exact⟨i1,j1,_,Cy (List.drop_eq_nil_iff.mp he.1) hc,fun ms'=>⟨⟨Nat.le_refl _,h.ok.len,h.ok.sg,.inl rfl,Nat.le_refl _,Nat.zero_le _⟩,Nat.zero_le _,by rw[tR];rfl,.top⟩⟩
theorem bV {r:Stm}:dH z i j r (.dat .non) r:=z.use (hs:=[]) (o:=.fz [] []) (g:=true) rfl trivial (by kernel_rfl)
theorem IL {c:Nat}(hl:ck.length≤15000):dH z i j ⟨t,p,ck,0,b⟩ (.dat (.str [c])) ⟨t,p,c::ck,0,b⟩:=
 z.use (hs:=[]) (o:=.fz [] []) (g:=cg [(true,Nat.ble ([c].length+ck.length) lim)]) (aA (li (by show 1+_≤_;omega)) aH) trivial (by kernel_rfl)
theorem IM {c:Nat}(h:ck[o]? =some c)(hl:o≤20000):dH z i j ⟨t,p,ck,o+1,b⟩ (.dat (.str [c])) ⟨t,p,ck,o,b⟩:=
 z.use (hs:=[.led 131 (SL i j ⟨t,p,ck,o,b⟩++[.fr [(iS,.ref 0),(xP,.dat (.str [c]))]]),.sub 131023051 (.dat (.str [c])),.tst 131023059 true]) (o:=.fz [] []) (g:=cg [(true,nb [c] [c])])
  (ob:=(∀ hp,bZ z.c 0 hp getItem z.c.VT (.dat (.str ck)) (.dat (.int o)) (.dat (.str [c])) hp)∧(SL i j ⟨t,p,ck,o+1,b⟩).set 1 (.ns [(bQ,.mth 148 0),(fF,.dat (.lst [.int 0])),(eG,.ref 2),(jN,.dat (.str ck)),(eY,.dat (.int ck.length)),(dU,.dat (.int (((o+1:Nat):Int)-1))),
  (b5,.dat (.lst [])),(dG,.dat (.int i)),(dW,.dat (.int j)),(b7,.dat (IG b))])++[.fr [(iS,.ref 0),(xP,.dat (.str [c]))]]=SL i j ⟨t,p,ck,o,b⟩++[.fr [(iS,.ref 0),(xP,.dat (.str [c]))]]∧True)
  (aA (oO _) aH) ⟨jO (oZ ck h) (li hl),by rw[show((o+1:Nat):Int)-1=o by omega];rfl,trivial⟩ (by kernel_rfl)
theorem aK {r:Stm}{ms l:Nm}{c:Nat}(h:At' r (c::ms) l)(hl:l.length<15000):∃ r',dH z i j r (.dat (.str [c])) r'∧At' r' ms (c::l):=by
 obtain⟨t,p,ck,o,b⟩:=r
 have he:l=ck.drop o++dQ (⟨t,p,ck,o,b⟩:Stm).rest:=h.eq
 have hk:ck.length-o≤15000:=h.chk
 cases o with
 |zero=>exact⟨_,IL (by omega),⟨h.ok.pl,h.ok.len,h.ok.sg,h.ok.buf,Nat.zero_le _,by show ck.length+1≤_;omega⟩,hl,congrArg (c::·) he,.top⟩
 |succ o=>
  have ho:o<ck.length:=h.ok.off
  have hp:=h.pre
  rw[show(⟨t,p,ck,o+1,b⟩:Stm).chunk.take (o+1)=ck.take o++[ck[o]] by rw[List.take_add_one,List.getElem?_eq_getElem ho];rfl,List.reverse_append]at hp
  obtain⟨rfl,hp'⟩:=Pre.tail hp
  exact⟨_,IM (List.getElem?_eq_getElem ho) (Nat.le_trans (Nat.le_of_lt ho) h.ok.chk),⟨h.ok.pl,h.ok.len,h.ok.sg,h.ok.buf,Nat.le_of_lt ho,h.ok.chk⟩,hl,by
   show _=ck.drop o++dQ (⟨t,p,ck,o+1,b⟩:Stm).rest
   rw[List.drop_eq_getElem_cons ho,he];rfl,hp'⟩
end
end
section
noncomputable def tS:Nm:=[99,104,97,114,97,99,116,101,114,115]
noncomputable def xQ:Nm:=[111,112,112,111,115,105,116,101]
noncomputable def Sr:Nm:=[114,118]
noncomputable def Cz:Nm:=[101,110,100]
noncomputable def BB:Fn:=kL k8 [15,9] [.dat (.boo false)]
noncomputable def oW:WhlI:=Li (nW BB.body 1)
noncomputable def iW:WhlI:=Li (nW oW.b 1)
noncomputable def UL (i j:Int)(r:Stm)(ch:D)(opp:Bool)(vs:List V)(eo:List (Nm×V)):List O:=
 SL i j r++[.fr ([(iS,.ref 0),(tS,.dat ch),(xQ,.dat (.boo opp)),(Sr,.ref 5)]++eo),.lst vs]
noncomputable abbrev eN (e:Nat):List (Nm×V):=[(Cz,.dat (.int e))]
noncomputable def tT (ch:D)(tst:Nat→Bool):Prop:=∀ (z:c8) (n:Nat) (c:Nat) (hp:List O),bZ z.c n hp (compareOp (e9 .isin)) tB (.dat (.str [c])) (.dat ch) (tst c) hp
noncomputable def kN (tst:Nat→Bool)(opp:Bool)(c:Nat):Bool:=GS (tst c) opp
section
variable {z:c8}{i j:Int}{r:Stm}{ch:D}{opp:Bool}{vs:List V}{t p ck:Nm}{tst:Nat→Bool}
noncomputable abbrev UF:Fx:=⟨4,[]⟩
theorem MB {e:Nat}(h:e=r.chunk.length):RB z.c BB.names 3 UF (UL i j r ch opp vs (eN e)) iW.t false (UL i j r ch opp vs (eN e)):=
 z.useT (hs:=[.tst 109018039 false]) (g:=cg [(false,!rB e r.chunk.length)]) (aA (by rw[← eQ,h,beq_self_eq_true];rfl) aH) trivial (by kernel_rfl)
theorem KB {e c:Nat}{b:Bool}(T:tT ch tst)(h:r.chunk[e]? =some c)(hl:r.chunk.length≤20000)(hb:kN tst opp c=b):RB z.c BB.names 3 UF (UL i j r ch opp vs (eN e)) iW.t b (UL i j r ch opp vs (eN e)):=by
 have lt:=(List.getElem?_eq_some_iff.mp h).1
 have h1:(!rB e r.chunk.length)=true:=by rw[← eQ];exact Ck (beq_eq_false_iff_ne.mpr (by omega))
 cases b with
 |true=>
  exact z.useT (hs:=[.tst 109018039 true,.sub 109045060 (.dat (.str [c])),.cmp 109045074 (tst c),.tst 109044087 true]) (g:=cg [(true,GS (tst c) opp),(true,!rB e r.chunk.length)])
   (ob:=(∀ hp,bZ z.c 3 hp (compareOp (e9 .isin)) tB (.dat (.str [c])) (.dat ch) (tst c) hp)∧(∀ hp,bZ z.c 3 hp getItem z.c.VT (.dat (.str r.chunk)) (.dat (.int e)) (.dat (.str [c])) hp)∧True)
   (aA hb (aA h1 aH)) ⟨T z 3 c,jO (oZ _ h) (li (by omega)),trivial⟩ (by kernel_rfl)
 |false=>
  exact z.useT (hs:=[.tst 109018039 true,.sub 109045060 (.dat (.str [c])),.cmp 109045074 (tst c),.tst 109044087 false]) (g:=cg [(false,GS (tst c) opp),(true,!rB e r.chunk.length)])
   (ob:=(∀ hp,bZ z.c 3 hp (compareOp (e9 .isin)) tB (.dat (.str [c])) (.dat ch) (tst c) hp)∧(∀ hp,bZ z.c 3 hp getItem z.c.VT (.dat (.str r.chunk)) (.dat (.int e)) (.dat (.str [c])) hp)∧True)
   (aA hb (aA h1 aH)) ⟨T z 3 c,jO (oZ _ h) (li (by omega)),trivial⟩ (by kernel_rfl)
theorem IN {e:Nat}:RX z.c BB.names 3 UF (UL i j r ch opp vs (eN e)) iW.b .next (UL i j r ch opp vs (eN (e+1))):=z.useX (hs:=[]) (g:=true) rfl trivial (by kernel_rfl)
theorem DA (T:tT ch tst)(hl:r.chunk.length≤20000):∀ (t:Nm) (e:Nat),r.chunk.drop e=t→e≤r.chunk.length→
  WhlR z.c BB.names 3 UF iW.t iW.b 6 (t.length+1) (UL i j r ch opp vs (eN e)) .next (UL i j r ch opp vs (eN (e+(t.takeWhile (kN tst opp)).length)))
 | [],e,h,he=>.stop (MB (Nat.le_antisymm he (List.drop_eq_nil_iff.mp h)))
 |c::t,e,h,_=>by
  have hc:r.chunk[e]? =some c:=by have:=congrArg (·[0]?) h;simpa using this
  have ht:r.chunk.drop (e+1)=t:=by rw[← List.drop_drop,h];rfl
  have lt:=(List.getElem?_eq_some_iff.mp hc).1
  cases hp:kN tst opp c with
  |false=>rw[List.takeWhile_cons_of_neg (by rw[hp];exact Bool.false_ne_true)];exact .stop (KB T hc hl hp)
  |true=>
   rw[List.takeWhile_cons_of_pos hp,show e+(c::t.takeWhile (kN tst opp)).length=(e+1)+(t.takeWhile (kN tst opp)).length by rw[List.length_cons];omega]
   exact .turn (KB T hc hl hp) IN rfl .id (DA T hl t (e+1) ht lt)
noncomputable abbrev IS (z:c8)(i j:Int)(r:Stm)(ch:D)(opp:Bool)(vs:List V)(u:Nat):Prop:=RS z.c BB.names 3 UF (UL i j r ch opp vs (eN r.off)) iW.s .next (UL i j r ch opp vs (eN (r.off+u)))
theorem DB (T:tT ch tst)(ok:r.Ok):IS z i j r ch opp vs ((r.chunk.drop r.off).takeWhile (kN tst opp)).length:=tF (DA T ok.chk _ _ rfl ok.off)
theorem tU {eo:List (Nm×V)}:RB z.c BB.names 3 UF (UL i j r ch opp vs eo) oW.t true (UL i j r ch opp vs eo):=z.useT (hs:=[]) (g:=true) rfl trivial (by kernel_rfl)
theorem Pp {eo:List (Nm×V)}(ho:eo=[]∨∃ v,eo=[(Cz,v)]):RS z.c BB.names 3 UF (UL i j r ch opp vs eo) (nW oW.b 0) .next (UL i j r ch opp vs (eN r.off)):=by
 rcases ho with rfl|⟨v,rfl⟩
 ·exact z.useS (hs:=[]) (g:=true) rfl trivial (by kernel_rfl)
 ·exact z.useS (hs:=[]) (g:=true) rfl trivial (by kernel_rfl)
noncomputable abbrev oB:List Stmt:=oW.b.drop 1
noncomputable abbrev OC (i j:Int)(r:Stm)(ch:D)(opp:Bool)(vs:List V)(u:Nat):Hi:=.stm 109 .next (UL i j r ch opp vs (eN (r.off+u)))
noncomputable abbrev OB (z:c8)(i j:Int)(r:Stm)(ch:D)(opp:Bool)(vs:List V)(fl:Fl)(i1 j1:Int)(r':Stm)(vs':List V)(u:Nat):Prop:=RX z.c BB.names 3 UF (UL i j r ch opp vs (eN r.off)) oB fl (UL i1 j1 r' ch opp vs' (eN u))
variable {i1 j1:Int}{o pl u:Nat}{tx:Nm}{b:Option Nat}
theorem IP (hi:IS z i j ⟨tx,pl,ck,o,b⟩ ch opp vs 0)(h:o≠ck.length):OB z i j ⟨tx,pl,ck,o,b⟩ ch opp vs .brk i j ⟨tx,pl,ck,o,b⟩ vs o:=
 z.useX (hs:=[OC i j ⟨tx,pl,ck,o,b⟩ ch opp vs 0,.tst 111015038 true,.tst 112019053 true]) (g:=cg [(true,!rB o ck.length),(true,rB o o)]) (aA (by rw[← eQ];exact Ck (beq_eq_false_iff_ne.mpr (by omega))) (aA (by rw[← eQ,beq_self_eq_true]) aH)) (an hi trivial) (by kernel_rfl)
theorem MD (hi:IS z i j ⟨tx,pl,ck,o,b⟩ ch opp vs u)(h0:0<u)(h:o+u<ck.length)(hl:ck.length≤20000)(hv:vs.length≤20000)(e:cut ck (some (o:Int)) (some ((o+u:Nat):Int))=p):OB z i j ⟨tx,pl,ck,o,b⟩ ch opp vs .brk i j ⟨tx,pl,ck,o+u,b⟩ (vs++[.dat (.str p)]) (o+u):=
 z.useX (hs:=[OC i j ⟨tx,pl,ck,o,b⟩ ch opp vs u,.tst 111015038 false,.tst 114017038 true,.val 115026058 (.dat (.str p))]) (g:=cg [(true,Nat.ble vs.length lim),(true,Nat.ble ck.length lim),(true,!rB (o+u:Nat) ck.length),(false,rB (o+u:Nat) o)])
  (ob:=V.dat (.str (cut ck (some (o:Int)) (some ((o+u:Nat):Int))))=V.dat (.str p)∧IS z i j ⟨tx,pl,ck,o,b⟩ ch opp vs u∧True)
  (aA (li hv) (aA (li hl) (aA (by rw[← eQ];exact Ck (beq_eq_false_iff_ne.mpr (by omega))) (aA (by rw[← eQ];exact beq_eq_false_iff_ne.mpr (by omega)) aH)))) ⟨congrArg (fun x=>V.dat (.str x)) e,hi,trivial⟩ (by kernel_rfl)
theorem Pq {r':Stm}(hi:IS z i j ⟨tx,pl,ck,o,b⟩ ch opp vs 0)(h:o=ck.length)(hl:ck.length≤20000)(hv:vs.length≤20000)(e:cut ck (some (o:Int)) none=p)(k:Bool)(hr:CH z i j ⟨tx,pl,ck,o,b⟩ k i1 j1 r'):OB z i j ⟨tx,pl,ck,o,b⟩ ch opp vs (bif k then .next else .brk) i1 j1 r' (vs++[.dat (.str p)]) o:=by
 have g:cg [(true,Nat.ble vs.length lim),(true,Nat.ble ck.length lim),(false,!rB o ck.length),(true,rB o o)]=true:=aA (li hv) (aA (li hl) (aA (by rw[← eQ,h,beq_self_eq_true];rfl) (aA (by rw[← eQ,beq_self_eq_true]) aH)))
 cases k with
 |true=>
  exact z.useX (hs:=[OC i j ⟨tx,pl,ck,o,b⟩ ch opp vs 0,.tst 111015038 true,.tst 112019053 false,.val 118022051 (.dat (.str p)),OA true i1 j1 r'])
   (ob:=CH z i j ⟨tx,pl,ck,o,b⟩ true i1 j1 r'∧V.dat (.str (cut ck (some (o:Int)) none))=V.dat (.str p)∧IS z i j ⟨tx,pl,ck,o,b⟩ ch opp vs 0∧True) g ⟨hr,congrArg (fun x=>V.dat (.str x)) e,hi,trivial⟩ (by kernel_rfl)
 |false=>
  exact z.useX (hs:=[OC i j ⟨tx,pl,ck,o,b⟩ ch opp vs 0,.tst 111015038 true,.tst 112019053 false,.val 118022051 (.dat (.str p)),OA false i1 j1 r'])
   (ob:=CH z i j ⟨tx,pl,ck,o,b⟩ false i1 j1 r'∧V.dat (.str (cut ck (some (o:Int)) none))=V.dat (.str p)∧IS z i j ⟨tx,pl,ck,o,b⟩ ch opp vs 0∧True) g ⟨hr,congrArg (fun x=>V.dat (.str x)) e,hi,trivial⟩ (by kernel_rfl)
theorem Ss {r':Stm}(hi:IS z i j ⟨tx,pl,ck,o,b⟩ ch opp vs u)(h0:0<u)(h:o+u=ck.length)(hl:ck.length≤20000)(hv:vs.length≤20000)(e:cut ck (some (o:Int)) none=p)(k:Bool)(hr:CH z i j ⟨tx,pl,ck,o,b⟩ k i1 j1 r'):OB z i j ⟨tx,pl,ck,o,b⟩ ch opp vs (bif k then .next else .brk) i1 j1 r' (vs++[.dat (.str p)]) (o+u):=by
 have g:cg [(true,Nat.ble vs.length lim),(true,Nat.ble ck.length lim),(false,!rB (o+u:Nat) ck.length),(false,rB (o+u:Nat) o)]=true:=aA (li hv) (aA (li hl) (aA (by rw[← eQ,h,beq_self_eq_true];rfl) (aA (by rw[← eQ];exact beq_eq_false_iff_ne.mpr (by omega)) aH)))
 cases k with
 |true=>
  exact z.useX (hs:=[OC i j ⟨tx,pl,ck,o,b⟩ ch opp vs u,.tst 111015038 false,.tst 114017038 false,.val 118022051 (.dat (.str p)),OA true i1 j1 r'])
   (ob:=CH z i j ⟨tx,pl,ck,o,b⟩ true i1 j1 r'∧V.dat (.str (cut ck (some (o:Int)) none))=V.dat (.str p)∧IS z i j ⟨tx,pl,ck,o,b⟩ ch opp vs u∧True) g ⟨hr,congrArg (fun x=>V.dat (.str x)) e,hi,trivial⟩ (by kernel_rfl)
 |false=>
  exact z.useX (hs:=[OC i j ⟨tx,pl,ck,o,b⟩ ch opp vs u,.tst 111015038 false,.tst 114017038 false,.val 118022051 (.dat (.str p)),OA false i1 j1 r'])
   (ob:=CH z i j ⟨tx,pl,ck,o,b⟩ false i1 j1 r'∧V.dat (.str (cut ck (some (o:Int)) none))=V.dat (.str p)∧IS z i j ⟨tx,pl,ck,o,b⟩ ch opp vs u∧True) g ⟨hr,congrArg (fun x=>V.dat (.str x)) e,hi,trivial⟩ (by kernel_rfl)
end
end
section
theorem lA {p:Nm}:∀ {vs:List V} {ss:List Nm},f9 vs=some ss→f9 (vs++[.dat (.str p)])=some (ss++[p])
 | [],_,h=>by cases h;rfl
 |v::vs,_,h=>by
  obtain⟨x,h1,h⟩:=bS h
  obtain⟨r,h2,rfl⟩:=c9 h
  show v.strE.bind _=_
  rw[h1]
  show(f9 (vs++[.dat (.str p)])).map (x::·)=_
  rw[lA h2];rfl
theorem DC {p:Nat→Bool}:∀ {a b:Nm},(∀ c∈a,p c=true)→(a++b).takeWhile p=a++b.takeWhile p∧(a++b).dropWhile p=b.dropWhile p
 | [],_,_=>⟨rfl,rfl⟩
 |c::a,b,h=>by
  have z:=DC (a:=a) (b:=b) fun x m=>h x (.tail _ m)
  rw[List.cons_append,List.takeWhile_cons_of_pos (h c (.head _)),List.dropWhile_cons_of_pos (h c (.head _)),z.1]
  exact⟨rfl,z.2⟩
theorem zG {p:Nat→Bool}:∀ {a b:Nm},(a.takeWhile p).length<a.length→(a++b).takeWhile p=a.takeWhile p∧(a++b).dropWhile p=a.drop (a.takeWhile p).length++b
 | [],_,h=>absurd h (Nat.lt_irrefl _)
 |c::a,b,h=>by
  cases q:p c with
  |false=>
   have q':¬ p c=true:=by rw[q];exact Bool.false_ne_true
   rw[List.cons_append,List.takeWhile_cons_of_neg q',List.dropWhile_cons_of_neg q',List.takeWhile_cons_of_neg q']
   exact⟨rfl,rfl⟩
  |true=>
   rw[List.takeWhile_cons_of_pos q]at h
   have z:=zG (a:=a) (b:=b) (Nat.lt_of_succ_lt_succ h)
   rw[List.cons_append,List.takeWhile_cons_of_pos q,List.dropWhile_cons_of_pos q,List.takeWhile_cons_of_pos q,z.1]
   exact⟨rfl,z.2⟩
theorem DD {p:Nat→Bool}:∀ {a:Nm},¬ (a.takeWhile p).length<a.length→(∀ c∈a,p c=true)∧a.takeWhile p=a
 | [],_=>⟨nofun,rfl⟩
 |c::a,h=>by
  cases q:p c with
  |false=>rw[List.takeWhile_cons_of_neg (by rw[q];exact Bool.false_ne_true)]at h;exact absurd (Nat.succ_pos _) h
  |true=>
   rw[List.takeWhile_cons_of_pos q]at h ⊢
   have z:=DD fun l=>h (Nat.succ_lt_succ l)
   exact⟨fun x m=>(List.mem_cons.mp m).elim (fun e=>e▸q) (z.1 x),congrArg (c::·) z.2⟩
theorem IQ {α:Type}(xs:List α){a b:Nat}(h1:a≤xs.length)(h2:b≤xs.length):cut xs (some (a:Int)) (some (b:Int))=(xs.drop a).take (b-a):=by
 show(xs.drop (mn a xs.length)).take (mn b xs.length-mn a xs.length)=_
 rw[nU,nU,Nat.min_eq_left h1,Nat.min_eq_left h2]
theorem v0 {α:Type}(xs:List α){a:Nat}(h1:a≤xs.length):cut xs (some (a:Int)) none=xs.drop a:=by
 show(xs.drop (mn a xs.length)).take (xs.length-mn a xs.length)=_
 rw[nU,Nat.min_eq_left h1]
 exact List.take_of_length_le (Nat.le_of_eq List.length_drop)
structure Ud (z:c8) (i j:Int) (r:Stm) (ch:D) (opp:Bool) (vs:List V) (ss:List Nm) (eo:List (Nm×V)) (s l:Nm):Prop where
 h:∃ m i1 j1 r' vs' x ss',WhlR z.c BB.names 3 UF oW.t oW.b 6 m (UL i j r ch opp vs eo) .next (UL i1 j1 r' ch opp vs' (eN x))∧f9 vs'=some ss'∧ss'.flatten=ss.flatten++s∧At' r' [] l
section
variable {z:c8}{ch:D}{opp:Bool}{tst:Nat→Bool}
theorem DE (T:tT ch tst):∀ (n:Nat) {i j:Int} {r:Stm} {ms l:Nm} {vs:List V} {ss:List Nm} {eo:List (Nm×V)},r.rest.length<n→At' r ms l→f9 vs=some ss→vs.length+n≤20000→(eo=[]∨∃ v,eo=[(Cz,v)])→
  Ud z i j r ch opp vs ss eo (l.takeWhile (kN tst opp)) (l.dropWhile (kN tst opp))
 |0,_,_,_,_,_,_,_,_,hn,_,_,_,_=>absurd hn (Nat.not_lt_zero _)
 |n+1,i,j,⟨tx,pl,ck,o,b⟩,ms,l,vs,ss,eo,hn,a,hs,hv,ho=>by
  have hi:IS z i j ⟨tx,pl,ck,o,b⟩ ch opp vs ((ck.drop o).takeWhile (kN tst opp)).length:=DB T a.ok
  have he:l=ck.drop o++dQ (⟨tx,pl,ck,o,b⟩:Stm).rest:=a.eq
  have ol:o≤ck.length:=a.ok.off
  have hv':vs.length≤20000:=by omega
  have hlen:(ck.drop o).length=ck.length-o:=List.length_drop
  have lst:∀ p:Nm,(ss++[p]).flatten=ss.flatten++p:=fun p=>by rw[List.flatten_append,List.flatten_singleton]
  have f1:=Pp (z:=z) (i:=i) (j:=j) (r:=⟨tx,pl,ck,o,b⟩) (ch:=ch) (opp:=opp) (vs:=vs) ho
  by_cases q:((ck.drop o).takeWhile (kN tst opp)).length < (ck.drop o).length
  ·have w:=zG (b:=dQ (⟨tx,pl,ck,o,b⟩:Stm).rest) q
   have hp:(ck.drop o).takeWhile (kN tst opp)=(ck.drop o).take ((ck.drop o).takeWhile (kN tst opp)).length:=List.prefix_iff_eq_take.mp (List.takeWhile_prefix _)
   rw[he,w.1,w.2]
   rw[hlen]at q
   generalize (ck.drop o).takeWhile (kN tst opp)=u at *
   cases u with
   |nil=>exact⟨_,i,j,_,vs,o,ss,.out (m:=0) tU (k7 f1 (IP hi (Nat.ne_of_lt (by have:0<ck.length-o:=q;omega)))) rfl,hs,(List.append_nil _).symm,a.ok,by have:=a.len;rw[he]at this;exact this,rfl,.nil⟩
   |cons c u=>
    have hl:o+(c::u).length<ck.length:=by omega
    refine⟨_,i,j,_,_,o+(c::u).length,_,.out (m:=0) tU (k7 f1 (MD hi (Nat.succ_pos _) hl a.ok.chk hv' (p:=c::u) (by rw[IQ _ ol (Nat.le_of_lt hl),Nat.add_sub_cancel_left];exact hp.symm))) rfl,lA hs,lst _,⟨a.ok.pl,a.ok.len,a.ok.sg,a.ok.buf,Nat.le_of_lt hl,a.ok.chk⟩,?_,by rw[List.drop_drop];rfl,.nil⟩
    have:=a.len
    rw[he,List.length_append]at this
    rw[List.length_append,List.length_drop]
    omega
  ·have w:=DD q
   have w2:=DC (b:=dQ (⟨tx,pl,ck,o,b⟩:Stm).rest) w.1
   rw[w.2,hlen]at hi
   rw[he,w2.1,w2.2]
   have turn:∀ (k:Bool) {i1 j1:Int} {r':Stm},CH z i j ⟨tx,pl,ck,o,b⟩ k i1 j1 r'→∃ e,RX z.c BB.names 3 UF (UL i j ⟨tx,pl,ck,o,b⟩ ch opp vs eo) oW.b (bif k then .next else .brk) (UL i1 j1 r' ch opp (vs++[.dat (.str (ck.drop o))]) (eN e)):=fun k i1 j1 r' hr=>by
    rcases Nat.lt_or_ge 0 (ck.length-o)with h0|h0
    ·exact⟨_,k7 f1 (Ss hi h0 (by omega) a.ok.chk hv' (v0 ck ol) k hr)⟩
    ·have h1:o=ck.length:=by omega
     rw[show ck.length-o=0 by omega]at hi
     exact⟨_,k7 f1 (Pq hi h1 a.ok.chk hv' (v0 ck ol) k hr)⟩
   by_cases e:(⟨tx,pl,ck,o,b⟩:Stm).rest=[]
   ·obtain⟨i1,j1,hr⟩:=vZ (z:=z) (i:=i) (j:=j) a.ok e
    obtain⟨x,t⟩:=turn false hr
    rw[e]
    exact⟨_,i1,j1,_,_,x,_,.out (m:=0) tU t rfl,lA hs,by rw[lst,show dQ []=[]from rfl,List.takeWhile_nil,List.append_nil],⟨⟨Nat.le_refl _,a.ok.len,a.ok.sg,.inl rfl,Nat.le_refl _,Nat.zero_le _⟩,Nat.zero_le _,by rw[tR];rfl,.nil⟩⟩
   ·obtain⟨r',⟨i1,j1,hr⟩,ok,h0,hne,hq,hless⟩:=rZ (z:=z) (i:=i) (j:=j) a.ok e
    obtain⟨x,t⟩:=turn true hr
    have hml:(dQ (⟨tx,pl,ck,o,b⟩:Stm).rest).length≤15000:=by
     have:=a.len
     rw[he,List.length_append]at this
     omega
    obtain⟨m,i2,j2,r2,vs2,x2,ss2,g1,g2,g3,g4⟩:=(DE T n (i:=i1) (j:=j1) (r:=r') (ms:=[]) (l:=dQ (⟨tx,pl,ck,o,b⟩:Stm).rest) (vs:=vs++[.dat (.str (ck.drop o))]) (eo:=eN x) (by omega) ⟨ok,hml,by rw[h0];exact hq.symm,.nil⟩ (lA hs) (by rw[List.length_append];show vs.length+1+n≤_;omega) (.inr ⟨_,rfl⟩)).h
    exact⟨_,i2,j2,r2,vs2,x2,ss2,.turn tU t rfl .id g1,g2,by rw[g3,lst,List.append_assoc],g4⟩
theorem xR (p:Nat→Bool):∀ l:Nm,(l.takeWhile p).length≤l.length
 | []=>Nat.le_refl _
 |c::l=>by
  cases q:p c with
  |true=>rw[List.takeWhile_cons_of_pos q];exact Nat.succ_le_succ (xR p l)
  |false=>rw[List.takeWhile_cons_of_neg (by rw[q];exact Bool.false_ne_true)];exact Nat.zero_le _
theorem DF {r:Stm}(h:r.Ok):r.rest.length≤10241:=by
 unfold Stm.rest
 rw[List.length_append,List.length_drop]
 have:=h.len
 rcases h.buf with e|⟨e,_⟩<;>rw[e]<;>simp <;>omega
noncomputable abbrev Su (z:c8)(i j:Int)(r:Stm)(as:List V)(s:Nm)(i1 j1:Int)(r':Stm):Prop:=CallOk z.c 4 156 (.ref 0::as) (SL i j r) (.dat (.str s)) (SL i1 j1 r')
theorem mM {i j:Int}{r:Stm}{ms l:Nm}(T:tT ch tst)(a:At' r ms l)(as:List V)(ha:(as=[.dat ch]∧opp=false)∨as=[.dat ch,.dat (.boo opp)]):∃ i1 j1 r',Su z i j r as (l.takeWhile (kN tst opp)) i1 j1 r'∧At' r' [] (l.dropWhile (kN tst opp)):=by
 obtain⟨m,i1,j1,r',vs,x,ss,g1,g2,g3,g4⟩:=(DE (z:=z) (opp:=opp) T (r.rest.length+1) (i:=i) (j:=j) (vs:=[]) (ss:=[]) (eo:=[]) (Nat.lt_succ_self _) a rfl (by have:=DF a.ok;show 0+_≤_;omega) (.inl rfl)).h
 have g3:ss.flatten=l.takeWhile (kN tst opp):=g3
 have hs:RS z.c BB.names 3 UF (UL i j r ch opp [] []) oW.s .next (UL i1 j1 r' ch opp vs (eN x)):=tF g1
 have hj:yT z.c 3 (UL i1 j1 r' ch opp vs (eN x)) (.str [] .join) [.ref 5] (.dat (.str ss.flatten)) (UL i1 j1 r' ch opp vs (eN x)):=oU rfl g2 (li (by rw[g3];have:=xR (kN tst opp) l;have:=a.len;omega))
 rw[g3]at hj
 generalize l.takeWhile (kN tst opp)=s at *
 refine⟨i1,j1,r',?_,g4⟩
 rcases ha with⟨rfl,rfl⟩|rfl
 ·exact z.use (hs:=[.stm 107 .next (UL i1 j1 r' ch false vs (eN x)),.bm (.dat (.str s)) (UL i1 j1 r' ch false vs (eN x))]) (o:=.fz [] []) (g:=true) rfl (an hj (an hs trivial)) (by kernel_rfl)
 ·exact z.use (hs:=[.stm 107 .next (UL i1 j1 r' ch opp vs (eN x)),.bm (.dat (.str s)) (UL i1 j1 r' ch opp vs (eN x))]) (o:=.fz [] []) (g:=true) rfl (an hj (an hs trivial)) (by kernel_rfl)
end
end
section
noncomputable def xS:Nm:=[100,97,116,97,118,97,114,115]
noncomputable def tV:Nm:=[116,121,112,101]
noncomputable def tX:Nm:=[110,97,109,101]
noncomputable def xT:Nm:=[112,117,98,108,105,99,73,100]
noncomputable def xU:Nm:=[115,121,115,116,101,109,73,100]
noncomputable def Ab:Nm:=[99,111,114,114,101,99,116]
noncomputable def kO:Nm:=[115,116,114,101,97,109]
noncomputable def kP:Nm:=[112,97,114,115,101,114]
noncomputable def fS:Nm:=[101,115,99,97,112,101,70,108,97,103]
noncomputable def eK:Nm:=VJ
noncomputable def mN:Nm:=[115,116,97,116,101]
noncomputable def kQ:Nm:=[101,115,99,97,112,101]
noncomputable def eZ:Nm:=VL
noncomputable def jP:Nm:=[116,111,107,101,110,81,117,101,117,101]
noncomputable def bX (c:Nat):Bool:=fX (.str [c]) [.str [9],.str [10],.str [12],.str [32],.str [13]]
noncomputable def zH (c:Nat):Bool:=match kM with
 |.tup ds=>fX (.str [c]) ds
 |_=>false
noncomputable def bP (a b c:Nat):Bool:=fX (.str [c]) [.str [a],.str [b]]
noncomputable def sA (c:Nat):Bool:=fX (.str [c]) [.str [38],.str [60],.str [0]]
noncomputable def Pr (c:Nat):Bool:=Txt.contains (st [62]) (st [c])
theorem IR:tT eR bX:=fun z n c hp=>((wW z.c n hp .isin (.dat (.str [c])) (.dat eR)).get rfl).ok rfl
theorem DG:tT (.tup [.str [38],.str [60],.str [0]]) sA:=fun z n c hp=>((wW z.c n hp .isin (.dat (.str [c])) (.dat (.tup [.str [38],.str [60],.str [0]]))).get rfl).ok rfl
theorem ME (a b:Nat):tT (.tup [.str [a],.str [b]]) (bP a b):=fun z n c hp=>((wW z.c n hp .isin (.dat (.str [c])) (.dat (.tup [.str [a],.str [b]]))).get rfl).ok rfl
theorem IT:tT (.str [62]) Pr:=fun z n c hp=>((wW z.c n hp .isin (.dat (.str [c])) (.dat (.str [62]))).get rfl).ok rfl
inductive CT where
 |dead (d:D)
 |com (s:Nm)
 |doc (name:Nm) (pub sys:Option Nm) (ok:Bool)
noncomputable def j9:Option Nm→D
 |none=>.non
 |some s=>.str s
inductive Tok where
 |err (w:Nm)|erv (w:Nm) (d:D)|chr1 (x:Nm)|chr2 (x:Nm)|com (s:Nm)|doc (name:Nm) (pub sys:Option Nm) (ok:Bool)
noncomputable def MF (s:Nm):List (Nm×D):=[(tV,.int 6),(cX,.str s)]
noncomputable def MG (n:Nm)(p q:Option Nm)(k:Bool):List (Nm×D):=[(tV,.int 0),(tX,.str n),(xT,j9 p),(xU,j9 q),(Ab,.boo k)]
noncomputable def tW (k:Int)(x:Nm):D:=.dct [(tV,.int k),(cX,.str x)]
noncomputable def Tok.toD:Tok→D
 |.err w=>tW 7 w
 |.erv w d=>.dct [(tV,.int 7),(cX,.str w),(xS,d)]
 |.chr1 x=>tW 1 x
 |.chr2 x=>tW 2 x
 |.com s=>.dct (MF s)
 |.doc n p q k=>.dct (MG n p q k)
noncomputable def UV:CT→V
 |.dead d=>.dat d
 |_=>.ref 7
noncomputable def Rv (es:List (Nm×D)):O:=.ns (es.map fun x=>(x.1,.dat x.2))
noncomputable def UW:CT→List O
 |.dead _=>[]
 |.com s=>[Rv (MF s)]
 |.doc n p q k=>[Rv (MG n p q k)]
noncomputable def TL (i j:Int)(r:Stm)(st:Nat)(ct:CT)(q:List Tok):List O:=
 [.ins 762 1,.ns [(kO,.ref 2),(kP,.dat .non),(fS,.dat (.boo false)),(eK,.dat (.lst [])),(mN,.mth st 0),(kQ,.dat (.boo false)),(eZ,UV ct),(jP,.ref 6)],
  .ins 166 3,.ns [(bQ,.mth 148 2),(fF,.dat (.lst [.int 0])),(eG,.ref 4),(jN,.dat (.str r.chunk)),(eY,.dat (.int r.chunk.length)),(dU,.dat (.int r.off)),
  (b5,.dat (.lst [])),(dG,.dat (.int i)),(dW,.dat (.int j)),(b7,.dat (IG r.buf))],
  .ins 73 5,.ns [(cN,.dat (.str r.text)),(jM,.dat (.int r.place))],.lst (q.map fun t=>.dat t.toD)]++UW ct
noncomputable def CT.Small:CT→Prop
 |.dead _=>True
 |.com s=>s.length≤1000
 |.doc n p q _=>n.length≤1000∧(p.getD []).length≤1000∧(q.getD []).length≤1000
structure Res where
 more:Bool
 st:Nat
 ct:CT
 out:List Tok
 rest:Nm
inductive ExR (z:c8) (st:Nat) (ct:CT) (i j:Int) (r:Stm) (res:Res):Prop
 |mk (i1 j1:Int) (r1:Stm) (g:List O) (hg:g=[]∨g=[.gone]) (h:CallOk z.c 5 st [.ref 0] (TL i j r st ct []) (.dat (.boo res.more)) (TL i1 j1 r1 res.st res.ct res.out++g)) (a:At' r1 [] res.rest)
noncomputable def Exs (z:c8)(st:Nat)(ct:CT)(i j:Int)(r:Stm):Option Res→Prop
 |none=>True
 |some res=>ExR z st ct i j r res
theorem Exs.mk {z:c8}{st:Nat}{ct:CT}{i j:Int}{r:Stm}{res:Res}(i1 j1:Int)(r1:Stm)(g:List O)(hg:g=[]∨g=[.gone])(h:CallOk z.c 5 st [.ref 0] (TL i j r st ct []) (.dat (.boo res.more)) (TL i1 j1 r1 res.st res.ct res.out++g))(a:At' r1 [] res.rest):Exs z st ct i j r (some res):=ExR.mk i1 j1 r1 g hg h a
theorem dN {z:c8}{st:Nat}{ct:CT}{i j:Int}{r:Stm}{b:Bool}{x y:Option Res}(h1:b=true→Exs z st ct i j r x)(h2:b=false→Exs z st ct i j r y):Exs z st ct i j r (bif b then x else y):=match b,h1,h2 with
 |true,h,_=>h rfl
 |false,_,h=>h rfl
theorem aT {a b:Nat}(h:nb [a] [b]=true):b=a:=(List.cons.inj (iH h)).1.symm
theorem MH {x y:Nm}{a b:Nat}(h:x.length≤a)(k:y.length≤b):(x++y).length≤a+b:=by rw[List.length_append];exact Nat.add_le_add h k
theorem Ps {x:Nm}{a:Nat}(h:x.length≤a)(k:Nat.ble a lim=true):Nat.ble x.length lim=true:=Nat.ble_eq_true_of_le (Nat.le_trans h (Nat.le_of_ble_eq_true k))
theorem gC {x y:Nm}{a b:Nat}(h:x.length≤a)(h':y.length≤b)(k:Nat.ble (a+b) lim=true):Nat.ble (x.length+y.length) lim=true:=Nat.ble_eq_true_of_le (Nat.le_trans (Nat.add_le_add h h') (Nat.le_of_ble_eq_true k))
theorem v4 {r:Stm}{ms l:Nm}(a:At' r ms l){p:Nat→Bool}:(l.takeWhile p).length≤15000:=Nat.le_trans (xR p l) a.len
noncomputable abbrev aG (i j:Int)(r:Stm)(v:V):Hi:=.cal 133 4 [2,3,4,5] v (SL i j r)
noncomputable abbrev bN (i j:Int)(r:Stm):Hi:=.cal 163 1 [2,3,4,5] (.dat .non) (SL i j r)
noncomputable abbrev DJ (i j:Int)(r:Stm)(s:Nm):Hi:=.cal 156 4 [2,3,4,5] (.dat (.str s)) (SL i j r)
noncomputable def MI (c:Nat):Nat:=bif !yK [c] [65]then(bif !yK [90] [c]then c+32 else c)else c
noncomputable def gJ (s:Nm):Nm:=s.map MI
theorem DK {s:Nm}{a:Nat}(h:s.length≤a):(gJ s).length≤a:=Nat.le_trans (Nat.le_of_eq (List.length_map ..)) h
noncomputable def Ac:Fn:=kL k8 [7] []
structure ComI where
 e:Expr
 t:Expr
 i:Expr
 s:Scope
 p:Pos
noncomputable def DM:Expr→ComI
 |.ListComp e [⟨t,i,[],0⟩] s p=>⟨e,t,i,s,p⟩
 |_=>⟨.Constant .none 0 uX,.Constant .none 0 uX,.Constant .none 0 uX,⟨.function,[],false,false,[]⟩,uX⟩
noncomputable def ComI.r (f:ComI):Expr:=.ListComp f.e [⟨f.t,f.i,[],0⟩] f.s f.p
noncomputable def Sv:Stmt→Expr
 |.Return (some (.Call _ [a] _ _)) _=>a
 |_=>.Constant .none 0 uX
noncomputable def tY:ComI:=DM (Sv (nW Ac.body 0))
noncomputable def LL (s:Nm)(o:List V)(eo:List (Nm×V)):List O:=[.fr [(cN,.dat (.str s))],.lst o,.fr eo]
noncomputable abbrev tZ (s:Nm):List V:=s.map fun c=>.dat (.str [MI c])
section
variable (z:c8){s:Nm}
noncomputable abbrev LF:Fx:=⟨2,[]⟩
theorem DN {o:List V}{c:Nat}:RE z.c (fQ Ac.names tY.s.names) 0 LF (LL s o [(GW,.dat (.str [c]))]) tY.e (.dat (.str [MI c])) (LL s o [(GW,.dat (.str [c]))]):=by
 unfold MI
 cases h1: !yK [c] [65]with
 |false=>exact z.useE (hs:=[.tst 11040043 false]) (g:=cg [(false,!yK [c] [65])]) (aA h1 aH) trivial (by kernel_rfl)
 |true=>cases h2: !yK [90] [c]with
  |false=>exact z.useE (hs:=[.tst 11040043 true,.tst 11040055 false]) (g:=cg [(false,!yK [90] [c]),(true,!yK [c] [65])]) (aA h2 (aA h1 aH)) trivial (by kernel_rfl)
  |true=>
   have hc:c≤90:=Nat.le_of_not_lt fun q=>by
    have:yK [90] [c]=true:=by rw[← wU];exact decide_eq_true (List.Lex.rel q)
    rw[this]at h2;cases h2
   exact z.useE (hs:=[.tst 11040043 true,.tst 11040055 true]) (g:=cg [(true,Nat.ble (c+32) 1114111),(true,!yK [90] [c]),(true,!yK [c] [65])]) (aA (Nat.ble_eq_true_of_le (by omega)) (aA h2 (aA h1 aH))) trivial (by kernel_rfl)
theorem v5:∀ (t:Nm) (k:Nat) (o:List V) (eo:List (Nm×V)),s.drop k=t→o.length=k→s.length≤20000→(eo=[]∨∃ v,eo=[(GW,v)])→∃ eo',ComR z.c (fQ Ac.names tY.s.names) 0 LF tY.t tY.e 1 (.dat (.str s)) (t.length+1) k (LL s o eo) (LL s (o++tZ t) eo')
 | [],k,o,eo,h,_,_,_=>⟨eo,by rw[show tZ []=[]from rfl,List.append_nil];exact .stop rfl (by rw[pX,List.getElem?_map,List.getElem?_eq_none (List.drop_eq_nil_iff.mp h)];rfl)⟩
 |c::t,k,o,eo,h,ho,hl,he=>by
  have hk:s[k]? =some c:=by have:=congrArg (·[0]?) h;simpa using this
  have ht:s.drop (k+1)=t:=by rw[← List.drop_drop,h];rfl
  have lt:=(List.getElem?_eq_some_iff.mp hk).1
  obtain⟨eo',q⟩:=v5 t (k+1) (o++[.dat (.str [MI c])]) [(GW,.dat (.str [c]))] ht (by rw[List.length_append,ho];rfl) hl (.inr ⟨_,rfl⟩)
  rw[List.append_assoc]at q
  have g:(pX s)[k]? =some (.dat (.str [c])):=by rw[pX,List.getElem?_map,hk];rfl
  have b:RG z.c (fQ Ac.names tY.s.names) 0 LF (LL s o eo) tY.t (.dat (.str [c])) (LL s o [(GW,.dat (.str [c]))]):=by
   rcases he with rfl|⟨v,rfl⟩
   ·exact cM (by kernel_rfl) (by kernel_rfl)
   ·exact cM (by kernel_rfl) (by kernel_rfl)
  exact⟨eo',.turn rfl g b (DN z) rfl (li (by omega)) q⟩
theorem t9 {n:Nm}(h:n.length≤15000):CallOk z.c 1 42 [.dat (.str n)] [] (.dat (.str (gJ n))) []:=by
 obtain⟨eo,q⟩:=v5 z n 0 [] [] rfl rfl (Nat.le_trans h (by decide)) (.inl rfl)
 have h1:RE z.c Ac.names 0 ⟨0,[]⟩ [.fr [(cN,.dat (.str n))]] tY.i (.dat (.str n)) [.fr [(cN,.dat (.str n))]]:=z.useE (hs:=[]) (g:=true) rfl trivial (by kernel_rfl)
 have h2:RE z.c Ac.names 0 ⟨0,[]⟩ [.fr [(cN,.dat (.str n))]] tY.r (.ref 1) [.fr [(cN,.dat (.str n))],.lst (tZ n),.gone]:=mJ (fR (by kernel_rfl)) h1 rfl rfl q rfl
 have hs:∀ n:Nm,f9 (tZ n)=some (n.map fun c=>[MI c]):=fun n=>by
  induction n with
  |nil=>rfl
  |cons c n ih=>show((f9 (tZ n)).map _)=_;rw[ih];rfl
 have hf:∀ n:Nm,(n.map fun c=>[MI c]).flatten=gJ n:=fun n=>by
  induction n with
  |nil=>rfl
  |cons c n ih=>rw[List.map_cons,List.flatten_cons,ih];rfl
 have hj:yT z.c 0 [.fr [(cN,.dat (.str n))],.lst (tZ n),.gone] (.str [] .join) [.ref 1] (.dat (.str (gJ n))) [.fr [(cN,.dat (.str n))],.lst (tZ n),.gone]:=hf n▸oU rfl (hs n) (li (by rw[hf];exact Nat.le_trans (DK h) (by decide)))
 exact z.use (hs:=[.exp 11019077 (.ref 1) [.fr [(cN,.dat (.str n))],.lst (tZ n),.gone],.bm (.dat (.str (gJ n))) [.fr [(cN,.dat (.str n))],.lst (tZ n),.gone]]) (o:=.fz [] []) (g:=true) rfl (an hj (an h2 trivial)) (by kernel_rfl)
end
end
section
noncomputable def DO:CT→Nm→Option Res
 |.com s,[]=>some ⟨true,304,.dead (Tok.com s).toD,[.err Uy,.com s],[]⟩
 |.com s,c0::l1=>bif nb [c0] [45]then some ⟨true,619,.com s,[],l1⟩else bif nb [c0] [0]then some ⟨true,612,.com (s++[65533]),[.err Ul],l1⟩else bif nb [c0] [62]then some ⟨true,304,.dead (Tok.com s).toD,[.err VC,.com s],l1⟩else some ⟨true,626,.com (s++[c0]),[],l1⟩
 |_,_=>none
theorem Pu {z:c8}{i j:Int}{r:Stm}{ms l:Nm}{ct:CT}(sm:ct.Small)(a:At' r ms l):Exs z 612 ct i j r (DO ct l):=by
 cases ct with
 |com s=>
  have hs:s.length≤1000:=sm
  cases l with
  |nil=>
   obtain⟨i1,j1,r1,h1,a1⟩:=aN (z:=z) (i:=i) (j:=j) a
   exact .mk i1 j1 r1 [.gone] (.inr rfl) (z.use (hs:=[aG i1 j1 r1 (.dat .non)]) (o:=.fz [9,7] []) (g:=cg []) aH (an h1 trivial) (by kernel_rfl)) (a1 [])
  |cons c0 l1=>
   obtain⟨i1,j1,r1,h1,a1⟩:=aO (z:=z) (i:=i) (j:=j) a
   refine dN (fun t0=>?_) (fun t0=>?_)
   ·obtain rfl:=aT t0
    exact .mk i1 j1 r1 [] (.inl rfl) (z.use (hs:=[aG i1 j1 r1 (.dat (.str [45]))]) (o:=.fz [] []) (g:=cg []) aH (an h1 trivial) (by kernel_rfl)) a1.none
   ·refine dN (fun t1=>?_) (fun t1=>?_)
    ·obtain rfl:=aT t1
     exact .mk i1 j1 r1 [] (.inl rfl) (z.use (hs:=[aG i1 j1 r1 (.dat (.str [0]))]) (o:=.fz [9] []) (g:=cg [(true,Nat.ble ((s:Nm).length+([65533]:Nm).length) lim)]) (aA (gC hs (Nat.le_refl 1) rfl) aH) (an h1 trivial) (by kernel_rfl)) a1.none
    ·refine dN (fun t2=>?_) (fun t2=>?_)
     ·obtain rfl:=aT t2
      exact .mk i1 j1 r1 [.gone] (.inr rfl) (z.use (hs:=[aG i1 j1 r1 (.dat (.str [62]))]) (o:=.fz [9,7] []) (g:=cg []) aH (an h1 trivial) (by kernel_rfl)) a1.none
     ·exact .mk i1 j1 r1 [] (.inl rfl) (z.use (hs:=[aG i1 j1 r1 (.dat (.str [c0])),.tst 716011022 false,.tst 718013027 false,.tst 721013024 false]) (o:=.fz [] []) (g:=cg [(true,Nat.ble ((s:Nm).length+([c0]:Nm).length) lim),(false,nb [c0] [62]),(false,nb [c0] [0]),(false,nb [c0] [45])]) (aA (gC hs (Nat.le_refl 1) rfl) (aA t2 (aA t1 (aA t0 aH)))) (an h1 trivial) (by kernel_rfl)) a1.none
 |_=>exact trivial
noncomputable def DP:CT→Nm→Option Res
 |.com s,[]=>some ⟨true,304,.dead (Tok.com s).toD,[.err Uy,.com s],[]⟩
 |.com s,c0::l1=>bif nb [c0] [45]then some ⟨true,640,.com s,[],l1⟩else bif nb [c0] [0]then some ⟨true,619,.com (s++[45,65533]),[.err Ul],l1⟩else bif nb [c0] [62]then some ⟨true,304,.dead (Tok.com s).toD,[.err VC,.com s],l1⟩else some ⟨true,626,.com (s++[45,c0]),[],l1⟩
 |_,_=>none
theorem Pv {z:c8}{i j:Int}{r:Stm}{ms l:Nm}{ct:CT}(sm:ct.Small)(a:At' r ms l):Exs z 619 ct i j r (DP ct l):=by
 cases ct with
 |com s=>
  have hs:s.length≤1000:=sm
  cases l with
  |nil=>
   obtain⟨i1,j1,r1,h1,a1⟩:=aN (z:=z) (i:=i) (j:=j) a
   exact .mk i1 j1 r1 [.gone] (.inr rfl) (z.use (hs:=[aG i1 j1 r1 (.dat .non)]) (o:=.fz [9,7] []) (g:=cg []) aH (an h1 trivial) (by kernel_rfl)) (a1 [])
  |cons c0 l1=>
   obtain⟨i1,j1,r1,h1,a1⟩:=aO (z:=z) (i:=i) (j:=j) a
   refine dN (fun t0=>?_) (fun t0=>?_)
   ·obtain rfl:=aT t0
    exact .mk i1 j1 r1 [] (.inl rfl) (z.use (hs:=[aG i1 j1 r1 (.dat (.str [45]))]) (o:=.fz [] []) (g:=cg []) aH (an h1 trivial) (by kernel_rfl)) a1.none
   ·refine dN (fun t1=>?_) (fun t1=>?_)
    ·obtain rfl:=aT t1
     exact .mk i1 j1 r1 [] (.inl rfl) (z.use (hs:=[aG i1 j1 r1 (.dat (.str [0]))]) (o:=.fz [9] []) (g:=cg [(true,Nat.ble ((s:Nm).length+([45,65533]:Nm).length) lim)]) (aA (gC hs (Nat.le_refl 2) rfl) aH) (an h1 trivial) (by kernel_rfl)) a1.none
    ·refine dN (fun t2=>?_) (fun t2=>?_)
     ·obtain rfl:=aT t2
      exact .mk i1 j1 r1 [.gone] (.inr rfl) (z.use (hs:=[aG i1 j1 r1 (.dat (.str [62]))]) (o:=.fz [9,7] []) (g:=cg []) aH (an h1 trivial) (by kernel_rfl)) a1.none
     ·exact .mk i1 j1 r1 [] (.inl rfl) (z.use (hs:=[aG i1 j1 r1 (.dat (.str [c0])),.tst 736011022 false,.tst 738013027 false,.tst 741013024 false]) (o:=.fz [] []) (g:=cg [(true,Nat.ble ((s:Nm).length+([45,c0]:Nm).length) lim),(false,nb [c0] [62]),(false,nb [c0] [0]),(false,nb [c0] [45])]) (aA (gC hs (Nat.le_refl 2) rfl) (aA t2 (aA t1 (aA t0 aH)))) (an h1 trivial) (by kernel_rfl)) a1.none
 |_=>exact trivial
noncomputable def DQ:CT→Nm→Option Res
 |.com s,[]=>some ⟨true,304,.dead (Tok.com s).toD,[.err Uy,.com s],[]⟩
 |.com s,c0::l1=>bif nb [c0] [45]then some ⟨true,633,.com s,[],l1⟩else bif nb [c0] [0]then some ⟨true,626,.com (s++[65533]),[.err Ul],l1⟩else some ⟨true,626,.com (s++([c0]++(l1.takeWhile (kN (bP 45 0) false)))),[],(l1.dropWhile (kN (bP 45 0) false))⟩
 |_,_=>none
theorem Pw {z:c8}{i j:Int}{r:Stm}{ms l:Nm}{ct:CT}(sm:ct.Small)(a:At' r ms l):Exs z 626 ct i j r (DQ ct l):=by
 cases ct with
 |com s=>
  have hs:s.length≤1000:=sm
  cases l with
  |nil=>
   obtain⟨i1,j1,r1,h1,a1⟩:=aN (z:=z) (i:=i) (j:=j) a
   exact .mk i1 j1 r1 [.gone] (.inr rfl) (z.use (hs:=[aG i1 j1 r1 (.dat .non)]) (o:=.fz [9,7] []) (g:=cg []) aH (an h1 trivial) (by kernel_rfl)) (a1 [])
  |cons c0 l1=>
   obtain⟨i1,j1,r1,h1,a1⟩:=aO (z:=z) (i:=i) (j:=j) a
   refine dN (fun t0=>?_) (fun t0=>?_)
   ·obtain rfl:=aT t0
    exact .mk i1 j1 r1 [] (.inl rfl) (z.use (hs:=[aG i1 j1 r1 (.dat (.str [45]))]) (o:=.fz [] []) (g:=cg []) aH (an h1 trivial) (by kernel_rfl)) a1.none
   ·refine dN (fun t1=>?_) (fun t1=>?_)
    ·obtain rfl:=aT t1
     exact .mk i1 j1 r1 [] (.inl rfl) (z.use (hs:=[aG i1 j1 r1 (.dat (.str [0]))]) (o:=.fz [9] []) (g:=cg [(true,Nat.ble ((s:Nm).length+([65533]:Nm).length) lim)]) (aA (gC hs (Nat.le_refl 1) rfl) aH) (an h1 trivial) (by kernel_rfl)) a1.none
    ·obtain⟨i2,j2,r2,h2,a2⟩:=mM (z:=z) (opp:=false) (i:=i1) (j:=j1) (ME 45 0) a1 [.dat (.tup [.str [45],.str [0]])] (.inl ⟨rfl,rfl⟩)
     exact .mk i2 j2 r2 [] (.inl rfl) (z.use (hs:=[aG i1 j1 r1 (.dat (.str [c0])),.tst 756011022 false,.tst 758013027 false,DJ i2 j2 r2 (l1.takeWhile (kN (bP 45 0) false))]) (o:=.fz [] []) (g:=cg [(true,Nat.ble ((s:Nm).length+([c0]++(l1.takeWhile (kN (bP 45 0) false)):Nm).length) lim),(true,Nat.ble (([c0]:Nm).length+((l1.takeWhile (kN (bP 45 0) false)):Nm).length) lim),(false,nb [c0] [0]),(false,nb [c0] [45])]) (aA (gC hs (MH (Nat.le_refl 1) (v4 a1)) rfl) (aA (gC (Nat.le_refl 1) (v4 a1) rfl) (aA t1 (aA t0 aH)))) (an h2 (an h1 trivial)) (by kernel_rfl)) a2.none
 |_=>exact trivial
noncomputable def DS:CT→Nm→Option Res
 |.com s,[]=>some ⟨true,304,.dead (Tok.com s).toD,[.err VE,.com s],[]⟩
 |.com s,c0::l1=>bif nb [c0] [45]then some ⟨true,640,.com s,[],l1⟩else bif nb [c0] [0]then some ⟨true,626,.com (s++[45,65533]),[.err Ul],l1⟩else some ⟨true,626,.com (s++[45,c0]),[],l1⟩
 |_,_=>none
theorem Px {z:c8}{i j:Int}{r:Stm}{ms l:Nm}{ct:CT}(sm:ct.Small)(a:At' r ms l):Exs z 633 ct i j r (DS ct l):=by
 cases ct with
 |com s=>
  have hs:s.length≤1000:=sm
  cases l with
  |nil=>
   obtain⟨i1,j1,r1,h1,a1⟩:=aN (z:=z) (i:=i) (j:=j) a
   exact .mk i1 j1 r1 [.gone] (.inr rfl) (z.use (hs:=[aG i1 j1 r1 (.dat .non)]) (o:=.fz [9,7] []) (g:=cg []) aH (an h1 trivial) (by kernel_rfl)) (a1 [])
  |cons c0 l1=>
   obtain⟨i1,j1,r1,h1,a1⟩:=aO (z:=z) (i:=i) (j:=j) a
   refine dN (fun t0=>?_) (fun t0=>?_)
   ·obtain rfl:=aT t0
    exact .mk i1 j1 r1 [] (.inl rfl) (z.use (hs:=[aG i1 j1 r1 (.dat (.str [45]))]) (o:=.fz [] []) (g:=cg []) aH (an h1 trivial) (by kernel_rfl)) a1.none
   ·refine dN (fun t1=>?_) (fun t1=>?_)
    ·obtain rfl:=aT t1
     exact .mk i1 j1 r1 [] (.inl rfl) (z.use (hs:=[aG i1 j1 r1 (.dat (.str [0]))]) (o:=.fz [9] []) (g:=cg [(true,Nat.ble ((s:Nm).length+([45,65533]:Nm).length) lim)]) (aA (gC hs (Nat.le_refl 2) rfl) aH) (an h1 trivial) (by kernel_rfl)) a1.none
    ·exact .mk i1 j1 r1 [] (.inl rfl) (z.use (hs:=[aG i1 j1 r1 (.dat (.str [c0])),.tst 771011022 false,.tst 773013027 false]) (o:=.fz [] []) (g:=cg [(true,Nat.ble ((s:Nm).length+([45,c0]:Nm).length) lim),(false,nb [c0] [0]),(false,nb [c0] [45])]) (aA (gC hs (Nat.le_refl 2) rfl) (aA t1 (aA t0 aH))) (an h1 trivial) (by kernel_rfl)) a1.none
 |_=>exact trivial
noncomputable def DV:CT→Nm→Option Res
 |.com s,[]=>some ⟨true,304,.dead (Tok.com s).toD,[.err VA,.com s],[]⟩
 |.com s,c0::l1=>bif nb [c0] [62]then some ⟨true,304,.dead (Tok.com s).toD,[.com s],l1⟩else bif nb [c0] [0]then some ⟨true,626,.com (s++[45,45,65533]),[.err Ul],l1⟩else bif nb [c0] [33]then some ⟨true,647,.com s,[.err Uq],l1⟩else bif nb [c0] [45]then some ⟨true,640,.com (s++[45]),[.err Up],l1⟩else some ⟨true,626,.com (s++[45,45,c0]),[.err VB],l1⟩
 |_,_=>none
theorem Py {z:c8}{i j:Int}{r:Stm}{ms l:Nm}{ct:CT}(sm:ct.Small)(a:At' r ms l):Exs z 640 ct i j r (DV ct l):=by
 cases ct with
 |com s=>
  have hs:s.length≤1000:=sm
  cases l with
  |nil=>
   obtain⟨i1,j1,r1,h1,a1⟩:=aN (z:=z) (i:=i) (j:=j) a
   exact .mk i1 j1 r1 [.gone] (.inr rfl) (z.use (hs:=[aG i1 j1 r1 (.dat .non)]) (o:=.fz [9,7] []) (g:=cg []) aH (an h1 trivial) (by kernel_rfl)) (a1 [])
  |cons c0 l1=>
   obtain⟨i1,j1,r1,h1,a1⟩:=aO (z:=z) (i:=i) (j:=j) a
   refine dN (fun t0=>?_) (fun t0=>?_)
   ·obtain rfl:=aT t0
    exact .mk i1 j1 r1 [.gone] (.inr rfl) (z.use (hs:=[aG i1 j1 r1 (.dat (.str [62]))]) (o:=.fz [7] []) (g:=cg []) aH (an h1 trivial) (by kernel_rfl)) a1.none
   ·refine dN (fun t1=>?_) (fun t1=>?_)
    ·obtain rfl:=aT t1
     exact .mk i1 j1 r1 [] (.inl rfl) (z.use (hs:=[aG i1 j1 r1 (.dat (.str [0]))]) (o:=.fz [9] []) (g:=cg [(true,Nat.ble ((s:Nm).length+([45,45,65533]:Nm).length) lim)]) (aA (gC hs (Nat.le_refl 3) rfl) aH) (an h1 trivial) (by kernel_rfl)) a1.none
    ·refine dN (fun t2=>?_) (fun t2=>?_)
     ·obtain rfl:=aT t2
      exact .mk i1 j1 r1 [] (.inl rfl) (z.use (hs:=[aG i1 j1 r1 (.dat (.str [33]))]) (o:=.fz [9] []) (g:=cg []) aH (an h1 trivial) (by kernel_rfl)) a1.none
     ·refine dN (fun t3=>?_) (fun t3=>?_)
      ·obtain rfl:=aT t3
       exact .mk i1 j1 r1 [] (.inl rfl) (z.use (hs:=[aG i1 j1 r1 (.dat (.str [45]))]) (o:=.fz [9] []) (g:=cg [(true,Nat.ble ((s:Nm).length+([45]:Nm).length) lim)]) (aA (gC hs (Nat.le_refl 1) rfl) aH) (an h1 trivial) (by kernel_rfl)) a1.none
      ·exact .mk i1 j1 r1 [] (.inl rfl) (z.use (hs:=[aG i1 j1 r1 (.dat (.str [c0])),.tst 788011022 false,.tst 791013027 false,.tst 795013024 false,.tst 798013024 false]) (o:=.fz [9] []) (g:=cg [(true,Nat.ble ((s:Nm).length+([45,45,c0]:Nm).length) lim),(false,nb [c0] [45]),(false,nb [c0] [33]),(false,nb [c0] [0]),(false,nb [c0] [62])]) (aA (gC hs (Nat.le_refl 3) rfl) (aA t3 (aA t2 (aA t1 (aA t0 aH))))) (an h1 trivial) (by kernel_rfl)) a1.none
 |_=>exact trivial
noncomputable def DW:CT→Nm→Option Res
 |.com s,[]=>some ⟨true,304,.dead (Tok.com s).toD,[.err Ux,.com s],[]⟩
 |.com s,c0::l1=>bif nb [c0] [62]then some ⟨true,304,.dead (Tok.com s).toD,[.com s],l1⟩else bif nb [c0] [45]then some ⟨true,633,.com (s++[45,45,33]),[],l1⟩else bif nb [c0] [0]then some ⟨true,626,.com (s++[45,45,33,65533]),[.err Ul],l1⟩else some ⟨true,626,.com (s++[45,45,33,c0]),[],l1⟩
 |_,_=>none
theorem Pz {z:c8}{i j:Int}{r:Stm}{ms l:Nm}{ct:CT}(sm:ct.Small)(a:At' r ms l):Exs z 647 ct i j r (DW ct l):=by
 cases ct with
 |com s=>
  have hs:s.length≤1000:=sm
  cases l with
  |nil=>
   obtain⟨i1,j1,r1,h1,a1⟩:=aN (z:=z) (i:=i) (j:=j) a
   exact .mk i1 j1 r1 [.gone] (.inr rfl) (z.use (hs:=[aG i1 j1 r1 (.dat .non)]) (o:=.fz [9,7] []) (g:=cg []) aH (an h1 trivial) (by kernel_rfl)) (a1 [])
  |cons c0 l1=>
   obtain⟨i1,j1,r1,h1,a1⟩:=aO (z:=z) (i:=i) (j:=j) a
   refine dN (fun t0=>?_) (fun t0=>?_)
   ·obtain rfl:=aT t0
    exact .mk i1 j1 r1 [.gone] (.inr rfl) (z.use (hs:=[aG i1 j1 r1 (.dat (.str [62]))]) (o:=.fz [7] []) (g:=cg []) aH (an h1 trivial) (by kernel_rfl)) a1.none
   ·refine dN (fun t1=>?_) (fun t1=>?_)
    ·obtain rfl:=aT t1
     exact .mk i1 j1 r1 [] (.inl rfl) (z.use (hs:=[aG i1 j1 r1 (.dat (.str [45]))]) (o:=.fz [] []) (g:=cg [(true,Nat.ble ((s:Nm).length+([45,45,33]:Nm).length) lim)]) (aA (gC hs (Nat.le_refl 3) rfl) aH) (an h1 trivial) (by kernel_rfl)) a1.none
    ·refine dN (fun t2=>?_) (fun t2=>?_)
     ·obtain rfl:=aT t2
      exact .mk i1 j1 r1 [] (.inl rfl) (z.use (hs:=[aG i1 j1 r1 (.dat (.str [0]))]) (o:=.fz [9] []) (g:=cg [(true,Nat.ble ((s:Nm).length+([45,45,33,65533]:Nm).length) lim)]) (aA (gC hs (Nat.le_refl 4) rfl) aH) (an h1 trivial) (by kernel_rfl)) a1.none
     ·exact .mk i1 j1 r1 [] (.inl rfl) (z.use (hs:=[aG i1 j1 r1 (.dat (.str [c0])),.tst 813011022 false,.tst 816013024 false,.tst 819013027 false]) (o:=.fz [] []) (g:=cg [(true,Nat.ble ((s:Nm).length+([45,45,33,c0]:Nm).length) lim),(false,nb [c0] [0]),(false,nb [c0] [45]),(false,nb [c0] [62])]) (aA (gC hs (Nat.le_refl 4) rfl) (aA t2 (aA t1 (aA t0 aH)))) (an h1 trivial) (by kernel_rfl)) a1.none
 |_=>exact trivial
end
section
noncomputable def DX:CT→Nm→Option Res
 |.doc n p q k,[]=>some ⟨true,304,.dead (Tok.doc n p q false).toD,[.err Uo,.doc n p q false],[]⟩
 |.doc n p q k,c0::l1=>bif bX c0 then some ⟨true,661,.doc n p q k,[],l1⟩else some ⟨true,661,.doc n p q k,[.err VD],c0::l1⟩
 |_,_=>none
theorem QA {z:c8}{i j:Int}{r:Stm}{ms l:Nm}{ct:CT}(sm:ct.Small)(a:At' r ms l):Exs z 654 ct i j r (DX ct l):=by
 cases ct with
 |doc n p q k=>
  have hn:n.length≤1000:=sm.1
  cases l with
  |nil=>
   obtain⟨i1,j1,r1,h1,a1⟩:=aN (z:=z) (i:=i) (j:=j) a
   exact .mk i1 j1 r1 [.gone] (.inr rfl) (z.use (hs:=[aG i1 j1 r1 (.dat .non)]) (o:=.fz [9,7] []) (g:=cg []) aH (an h1 trivial) (by kernel_rfl)) (a1 [])
  |cons c0 l1=>
   obtain⟨i1,j1,r1,h1,a1⟩:=aO (z:=z) (i:=i) (j:=j) a
   refine dN (fun t0=>?_) (fun t0=>?_)
   ·exact .mk i1 j1 r1 [] (.inl rfl) (z.use (hs:=[aG i1 j1 r1 (.dat (.str [c0])),.tst 834011034 true]) (o:=.fz [] []) (g:=cg [(true,bX c0)]) (aA t0 aH) (an h1 trivial) (by kernel_rfl)) a1.none
   ·obtain⟨r2,h2,a2⟩:=aK (z:=z) (i:=i1) (j:=j1) a1 a.len
    exact .mk i1 j1 r2 [] (.inl rfl) (z.use (hs:=[aG i1 j1 r1 (.dat (.str [c0])),.tst 834011034 false,bN i1 j1 r2]) (o:=.fz [9] []) (g:=cg [(false,bX c0)]) (aA t0 aH) (an h2 (an h1 trivial)) (by kernel_rfl)) a2.none
 |_=>exact trivial
noncomputable def DY:CT→Nm→Option Res
 |.doc n p q k,[]=>some ⟨true,304,.dead (Tok.doc n p q false).toD,[.err Uo,.doc n p q false],[]⟩
 |.doc n p q k,c0::l1=>bif bX c0 then some ⟨true,661,.doc n p q k,[],l1⟩else bif nb [c0] [62]then some ⟨true,304,.dead (Tok.doc n p q false).toD,[.err [101,120,112,101,99,116,101,100,45,100,111,99,116,121,112,101,45,110,97,109,101,45,98,117,116,45,103,111,116,45,114,105,103,104,116,45,98,114,97,99,107,101,116],.doc n p q false],l1⟩else bif nb [c0] [0]then some ⟨true,668,.doc [65533] p q k,[.err Ul],l1⟩else some ⟨true,668,.doc [c0] p q k,[],l1⟩
 |_,_=>none
theorem QB {z:c8}{i j:Int}{r:Stm}{ms l:Nm}{ct:CT}(sm:ct.Small)(a:At' r ms l):Exs z 661 ct i j r (DY ct l):=by
 cases ct with
 |doc n p q k=>
  have hn:n.length≤1000:=sm.1
  cases l with
  |nil=>
   obtain⟨i1,j1,r1,h1,a1⟩:=aN (z:=z) (i:=i) (j:=j) a
   exact .mk i1 j1 r1 [.gone] (.inr rfl) (z.use (hs:=[aG i1 j1 r1 (.dat .non)]) (o:=.fz [9,7] []) (g:=cg []) aH (an h1 trivial) (by kernel_rfl)) (a1 [])
  |cons c0 l1=>
   obtain⟨i1,j1,r1,h1,a1⟩:=aO (z:=z) (i:=i) (j:=j) a
   refine dN (fun t0=>?_) (fun t0=>?_)
   ·exact .mk i1 j1 r1 [] (.inl rfl) (z.use (hs:=[aG i1 j1 r1 (.dat (.str [c0])),.tst 849011034 true]) (o:=.fz [] []) (g:=cg [(true,bX c0)]) (aA t0 aH) (an h1 trivial) (by kernel_rfl)) a1.none
   ·refine dN (fun t1=>?_) (fun t1=>?_)
    ·obtain rfl:=aT t1
     exact .mk i1 j1 r1 [.gone] (.inr rfl) (z.use (hs:=[aG i1 j1 r1 (.dat (.str [62]))]) (o:=.fz [9,7] []) (g:=cg []) aH (an h1 trivial) (by kernel_rfl)) a1.none
    ·refine dN (fun t2=>?_) (fun t2=>?_)
     ·obtain rfl:=aT t2
      exact .mk i1 j1 r1 [] (.inl rfl) (z.use (hs:=[aG i1 j1 r1 (.dat (.str [0]))]) (o:=.fz [9] []) (g:=cg []) aH (an h1 trivial) (by kernel_rfl)) a1.none
     ·exact .mk i1 j1 r1 [] (.inl rfl) (z.use (hs:=[aG i1 j1 r1 (.dat (.str [c0])),.tst 849011034 false,.tst 851013024 false,.tst 856013027 false]) (o:=.fz [] []) (g:=cg [(false,nb [c0] [0]),(false,nb [c0] [62]),(false,bX c0)]) (aA t2 (aA t1 (aA t0 aH))) (an h1 trivial) (by kernel_rfl)) a1.none
 |_=>exact trivial
noncomputable def DZ:CT→Nm→Option Res
 |.doc n p q k,[]=>some ⟨true,304,.dead (Tok.doc (gJ n) p q false).toD,[.err VG,.doc (gJ n) p q false],[]⟩
 |.doc n p q k,c0::l1=>bif bX c0 then some ⟨true,675,.doc (gJ n) p q k,[],l1⟩else bif nb [c0] [62]then some ⟨true,304,.dead (Tok.doc (gJ n) p q k).toD,[.doc (gJ n) p q k],l1⟩else bif nb [c0] [0]then some ⟨true,668,.doc (n++[65533]) p q k,[.err Ul],l1⟩else some ⟨true,668,.doc (n++[c0]) p q k,[],l1⟩
 |_,_=>none
theorem QC {z:c8}{i j:Int}{r:Stm}{ms l:Nm}{ct:CT}(sm:ct.Small)(a:At' r ms l):Exs z 668 ct i j r (DZ ct l):=by
 cases ct with
 |doc n p q k=>
  have hn:n.length≤1000:=sm.1
  cases l with
  |nil=>
   obtain⟨i1,j1,r1,h1,a1⟩:=aN (z:=z) (i:=i) (j:=j) a
   exact .mk i1 j1 r1 [.gone] (.inr rfl) (z.use (hs:=[aG i1 j1 r1 (.dat .non),.cal 42 1 [] (.dat (.str (gJ n))) []]) (o:=.fz [9,7] []) (g:=cg []) (ob:=CallOk z.c 1 42 [.dat (.str n)] [] (.dat (.str (gJ n))) []∧bR z i j r (.dat .non) i1 j1 r1∧True) aH ⟨t9 z (Nat.le_trans hn (Nat.le_of_ble_eq_true rfl)),h1,trivial⟩ (by kernel_rfl)) (a1 [])
  |cons c0 l1=>
   obtain⟨i1,j1,r1,h1,a1⟩:=aO (z:=z) (i:=i) (j:=j) a
   refine dN (fun t0=>?_) (fun t0=>?_)
   ·exact .mk i1 j1 r1 [] (.inl rfl) (z.use (hs:=[aG i1 j1 r1 (.dat (.str [c0])),.tst 872011034 true,.cal 42 1 [] (.dat (.str (gJ n))) []]) (o:=.fz [] []) (g:=cg [(true,bX c0)]) (ob:=CallOk z.c 1 42 [.dat (.str n)] [] (.dat (.str (gJ n))) []∧bR z i j r (.dat (.str [c0])) i1 j1 r1∧True) (aA t0 aH) ⟨t9 z (Nat.le_trans hn (Nat.le_of_ble_eq_true rfl)),h1,trivial⟩ (by kernel_rfl)) a1.none
   ·refine dN (fun t1=>?_) (fun t1=>?_)
    ·obtain rfl:=aT t1
     exact .mk i1 j1 r1 [.gone] (.inr rfl) (z.use (hs:=[aG i1 j1 r1 (.dat (.str [62])),.cal 42 1 [] (.dat (.str (gJ n))) []]) (o:=.fz [7] []) (g:=cg []) (ob:=CallOk z.c 1 42 [.dat (.str n)] [] (.dat (.str (gJ n))) []∧bR z i j r (.dat (.str [62])) i1 j1 r1∧True) aH ⟨t9 z (Nat.le_trans hn (Nat.le_of_ble_eq_true rfl)),h1,trivial⟩ (by kernel_rfl)) a1.none
    ·refine dN (fun t2=>?_) (fun t2=>?_)
     ·obtain rfl:=aT t2
      exact .mk i1 j1 r1 [] (.inl rfl) (z.use (hs:=[aG i1 j1 r1 (.dat (.str [0]))]) (o:=.fz [9] []) (g:=cg [(true,Nat.ble ((n:Nm).length+([65533]:Nm).length) lim)]) (aA (gC hn (Nat.le_refl 1) rfl) aH) (an h1 trivial) (by kernel_rfl)) a1.none
     ·exact .mk i1 j1 r1 [] (.inl rfl) (z.use (hs:=[aG i1 j1 r1 (.dat (.str [c0])),.tst 872011034 false,.tst 875013024 false,.tst 879013027 false]) (o:=.fz [] []) (g:=cg [(true,Nat.ble ((n:Nm).length+([c0]:Nm).length) lim),(false,nb [c0] [0]),(false,nb [c0] [62]),(false,bX c0)]) (aA (gC hn (Nat.le_refl 1) rfl) (aA t2 (aA t1 (aA t0 aH)))) (an h1 trivial) (by kernel_rfl)) a1.none
 |_=>exact trivial
noncomputable def Da:CT→Nm→Option Res
 |.doc n p q k,[]=>some ⟨true,304,.dead (Tok.doc n p q false).toD,[.err Um,.doc n p q false],[]⟩
 |.doc n p q k,c0::l1=>bif bX c0 then some ⟨true,689,.doc n p q k,[],l1⟩else bif bP 39 34 c0 then some ⟨true,689,.doc n p q k,[.err Uk],c0::l1⟩else some ⟨true,689,.doc n p q k,[],c0::l1⟩
 |_,_=>none
theorem QD {z:c8}{i j:Int}{r:Stm}{ms l:Nm}{ct:CT}(sm:ct.Small)(a:At' r ms l):Exs z 682 ct i j r (Da ct l):=by
 cases ct with
 |doc n p q k=>
  have hn:n.length≤1000:=sm.1
  cases l with
  |nil=>
   obtain⟨i1,j1,r1,h1,a1⟩:=aN (z:=z) (i:=i) (j:=j) a
   exact .mk i1 j1 r1 [.gone] (.inr rfl) (z.use (hs:=[aG i1 j1 r1 (.dat .non)]) (o:=.fz [9,7] []) (g:=cg []) aH (an h1 trivial) (by kernel_rfl)) (a1 [])
  |cons c0 l1=>
   obtain⟨i1,j1,r1,h1,a1⟩:=aO (z:=z) (i:=i) (j:=j) a
   refine dN (fun t0=>?_) (fun t0=>?_)
   ·exact .mk i1 j1 r1 [] (.inl rfl) (z.use (hs:=[aG i1 j1 r1 (.dat (.str [c0])),.tst 935011034 true]) (o:=.fz [] []) (g:=cg [(true,bX c0)]) (aA t0 aH) (an h1 trivial) (by kernel_rfl)) a1.none
   ·refine dN (fun t1=>?_) (fun t1=>?_)
    ·obtain⟨r2,h2,a2⟩:=aK (z:=z) (i:=i1) (j:=j1) a1 a.len
     exact .mk i1 j1 r2 [] (.inl rfl) (z.use (hs:=[aG i1 j1 r1 (.dat (.str [c0])),.tst 935011034 false,.tst 937013031 true,bN i1 j1 r2]) (o:=.fz [9] []) (g:=cg [(true,bP 39 34 c0),(false,bX c0)]) (aA t1 (aA t0 aH)) (an h2 (an h1 trivial)) (by kernel_rfl)) a2.none
    ·obtain⟨r2,h2,a2⟩:=aK (z:=z) (i:=i1) (j:=j1) a1 a.len
     exact .mk i1 j1 r2 [] (.inl rfl) (z.use (hs:=[aG i1 j1 r1 (.dat (.str [c0])),.tst 935011034 false,.tst 937013031 false,bN i1 j1 r2]) (o:=.fz [] []) (g:=cg [(false,bP 39 34 c0),(false,bX c0)]) (aA t1 (aA t0 aH)) (an h2 (an h1 trivial)) (by kernel_rfl)) a2.none
 |_=>exact trivial
noncomputable def Db:CT→Nm→Option Res
 |.doc n p q k,[]=>some ⟨true,304,.dead (Tok.doc n p q false).toD,[.err Um,.doc n p q false],[]⟩
 |.doc n p q k,c0::l1=>bif bX c0 then some ⟨true,689,.doc n p q k,[],l1⟩else bif nb [c0] [34]then some ⟨true,696,.doc n (some []) q k,[],l1⟩else bif nb [c0] [39]then some ⟨true,703,.doc n (some []) q k,[],l1⟩else bif nb [c0] [62]then some ⟨true,304,.dead (Tok.doc n p q false).toD,[.err Un,.doc n p q false],l1⟩else some ⟨true,759,.doc n p q false,[.err Uk],l1⟩
 |_,_=>none
theorem QF {z:c8}{i j:Int}{r:Stm}{ms l:Nm}{ct:CT}(sm:ct.Small)(a:At' r ms l):Exs z 689 ct i j r (Db ct l):=by
 cases ct with
 |doc n p q k=>
  have hn:n.length≤1000:=sm.1
  cases l with
  |nil=>
   obtain⟨i1,j1,r1,h1,a1⟩:=aN (z:=z) (i:=i) (j:=j) a
   exact .mk i1 j1 r1 [.gone] (.inr rfl) (z.use (hs:=[aG i1 j1 r1 (.dat .non)]) (o:=.fz [9,7] []) (g:=cg []) aH (an h1 trivial) (by kernel_rfl)) (a1 [])
  |cons c0 l1=>
   obtain⟨i1,j1,r1,h1,a1⟩:=aO (z:=z) (i:=i) (j:=j) a
   refine dN (fun t0=>?_) (fun t0=>?_)
   ·exact .mk i1 j1 r1 [] (.inl rfl) (z.use (hs:=[aG i1 j1 r1 (.dat (.str [c0])),.tst 953011034 true]) (o:=.fz [] []) (g:=cg [(true,bX c0)]) (aA t0 aH) (an h1 trivial) (by kernel_rfl)) a1.none
   ·refine dN (fun t1=>?_) (fun t1=>?_)
    ·obtain rfl:=aT t1
     exact .mk i1 j1 r1 [] (.inl rfl) (z.use (hs:=[aG i1 j1 r1 (.dat (.str [34]))]) (o:=.fz [] []) (g:=cg []) aH (an h1 trivial) (by kernel_rfl)) a1.none
    ·refine dN (fun t2=>?_) (fun t2=>?_)
     ·obtain rfl:=aT t2
      exact .mk i1 j1 r1 [] (.inl rfl) (z.use (hs:=[aG i1 j1 r1 (.dat (.str [39]))]) (o:=.fz [] []) (g:=cg []) aH (an h1 trivial) (by kernel_rfl)) a1.none
     ·refine dN (fun t3=>?_) (fun t3=>?_)
      ·obtain rfl:=aT t3
       exact .mk i1 j1 r1 [.gone] (.inr rfl) (z.use (hs:=[aG i1 j1 r1 (.dat (.str [62]))]) (o:=.fz [9,7] []) (g:=cg []) aH (an h1 trivial) (by kernel_rfl)) a1.none
      ·exact .mk i1 j1 r1 [] (.inl rfl) (z.use (hs:=[aG i1 j1 r1 (.dat (.str [c0])),.tst 953011034 false,.tst 955013024 false,.tst 958013024 false,.tst 961013024 false]) (o:=.fz [9] []) (g:=cg [(false,nb [c0] [62]),(false,nb [c0] [39]),(false,nb [c0] [34]),(false,bX c0)]) (aA t3 (aA t2 (aA t1 (aA t0 aH)))) (an h1 trivial) (by kernel_rfl)) a1.none
 |_=>exact trivial
noncomputable def Dc:CT→Nm→Option Res
 |.doc n p q k,[]=>some ⟨true,304,.dead (Tok.doc n p q false).toD,[.err Um,.doc n p q false],[]⟩
 |.doc n p q k,c0::l1=>bif bX c0 then some ⟨true,717,.doc n p q k,[],l1⟩else bif nb [c0] [62]then some ⟨true,304,.dead (Tok.doc n p q k).toD,[.doc n p q k],l1⟩else bif nb [c0] [34]then some ⟨true,738,.doc n p (some []) k,[.err Uk],l1⟩else bif nb [c0] [39]then some ⟨true,745,.doc n p (some []) k,[.err Uk],l1⟩else some ⟨true,759,.doc n p q false,[.err Uk],l1⟩
 |_,_=>none
theorem QG {z:c8}{i j:Int}{r:Stm}{ms l:Nm}{ct:CT}(sm:ct.Small)(a:At' r ms l):Exs z 710 ct i j r (Dc ct l):=by
 cases ct with
 |doc n p q k=>
  have hn:n.length≤1000:=sm.1
  cases l with
  |nil=>
   obtain⟨i1,j1,r1,h1,a1⟩:=aN (z:=z) (i:=i) (j:=j) a
   exact .mk i1 j1 r1 [.gone] (.inr rfl) (z.use (hs:=[aG i1 j1 r1 (.dat .non)]) (o:=.fz [9,7] []) (g:=cg []) aH (an h1 trivial) (by kernel_rfl)) (a1 [])
  |cons c0 l1=>
   obtain⟨i1,j1,r1,h1,a1⟩:=aO (z:=z) (i:=i) (j:=j) a
   refine dN (fun t0=>?_) (fun t0=>?_)
   ·exact .mk i1 j1 r1 [] (.inl rfl) (z.use (hs:=[aG i1 j1 r1 (.dat (.str [c0])),.tst 1021011034 true]) (o:=.fz [] []) (g:=cg [(true,bX c0)]) (aA t0 aH) (an h1 trivial) (by kernel_rfl)) a1.none
   ·refine dN (fun t1=>?_) (fun t1=>?_)
    ·obtain rfl:=aT t1
     exact .mk i1 j1 r1 [.gone] (.inr rfl) (z.use (hs:=[aG i1 j1 r1 (.dat (.str [62]))]) (o:=.fz [7] []) (g:=cg []) aH (an h1 trivial) (by kernel_rfl)) a1.none
    ·refine dN (fun t2=>?_) (fun t2=>?_)
     ·obtain rfl:=aT t2
      exact .mk i1 j1 r1 [] (.inl rfl) (z.use (hs:=[aG i1 j1 r1 (.dat (.str [34]))]) (o:=.fz [9] []) (g:=cg []) aH (an h1 trivial) (by kernel_rfl)) a1.none
     ·refine dN (fun t3=>?_) (fun t3=>?_)
      ·obtain rfl:=aT t3
       exact .mk i1 j1 r1 [] (.inl rfl) (z.use (hs:=[aG i1 j1 r1 (.dat (.str [39]))]) (o:=.fz [9] []) (g:=cg []) aH (an h1 trivial) (by kernel_rfl)) a1.none
      ·exact .mk i1 j1 r1 [] (.inl rfl) (z.use (hs:=[aG i1 j1 r1 (.dat (.str [c0])),.tst 1021011034 false,.tst 1023013024 false,.tst 1026013024 false,.tst 1030013024 false]) (o:=.fz [9] []) (g:=cg [(false,nb [c0] [39]),(false,nb [c0] [34]),(false,nb [c0] [62]),(false,bX c0)]) (aA t3 (aA t2 (aA t1 (aA t0 aH)))) (an h1 trivial) (by kernel_rfl)) a1.none
 |_=>exact trivial
noncomputable def Dd:CT→Nm→Option Res
 |.doc n p q k,[]=>some ⟨true,304,.dead (Tok.doc n p q false).toD,[.err Um,.doc n p q false],[]⟩
 |.doc n p q k,c0::l1=>bif bX c0 then some ⟨true,717,.doc n p q k,[],l1⟩else bif nb [c0] [62]then some ⟨true,304,.dead (Tok.doc n p q k).toD,[.doc n p q k],l1⟩else bif nb [c0] [34]then some ⟨true,738,.doc n p (some []) k,[],l1⟩else bif nb [c0] [39]then some ⟨true,745,.doc n p (some []) k,[],l1⟩else some ⟨true,759,.doc n p q false,[.err Uk],l1⟩
 |_,_=>none
theorem QH {z:c8}{i j:Int}{r:Stm}{ms l:Nm}{ct:CT}(sm:ct.Small)(a:At' r ms l):Exs z 717 ct i j r (Dd ct l):=by
 cases ct with
 |doc n p q k=>
  have hn:n.length≤1000:=sm.1
  cases l with
  |nil=>
   obtain⟨i1,j1,r1,h1,a1⟩:=aN (z:=z) (i:=i) (j:=j) a
   exact .mk i1 j1 r1 [.gone] (.inr rfl) (z.use (hs:=[aG i1 j1 r1 (.dat .non)]) (o:=.fz [9,7] []) (g:=cg []) aH (an h1 trivial) (by kernel_rfl)) (a1 [])
  |cons c0 l1=>
   obtain⟨i1,j1,r1,h1,a1⟩:=aO (z:=z) (i:=i) (j:=j) a
   refine dN (fun t0=>?_) (fun t0=>?_)
   ·exact .mk i1 j1 r1 [] (.inl rfl) (z.use (hs:=[aG i1 j1 r1 (.dat (.str [c0])),.tst 1047011034 true]) (o:=.fz [] []) (g:=cg [(true,bX c0)]) (aA t0 aH) (an h1 trivial) (by kernel_rfl)) a1.none
   ·refine dN (fun t1=>?_) (fun t1=>?_)
    ·obtain rfl:=aT t1
     exact .mk i1 j1 r1 [.gone] (.inr rfl) (z.use (hs:=[aG i1 j1 r1 (.dat (.str [62]))]) (o:=.fz [7] []) (g:=cg []) aH (an h1 trivial) (by kernel_rfl)) a1.none
    ·refine dN (fun t2=>?_) (fun t2=>?_)
     ·obtain rfl:=aT t2
      exact .mk i1 j1 r1 [] (.inl rfl) (z.use (hs:=[aG i1 j1 r1 (.dat (.str [34]))]) (o:=.fz [] []) (g:=cg []) aH (an h1 trivial) (by kernel_rfl)) a1.none
     ·refine dN (fun t3=>?_) (fun t3=>?_)
      ·obtain rfl:=aT t3
       exact .mk i1 j1 r1 [] (.inl rfl) (z.use (hs:=[aG i1 j1 r1 (.dat (.str [39]))]) (o:=.fz [] []) (g:=cg []) aH (an h1 trivial) (by kernel_rfl)) a1.none
      ·exact .mk i1 j1 r1 [] (.inl rfl) (z.use (hs:=[aG i1 j1 r1 (.dat (.str [c0])),.tst 1047011034 false,.tst 1049013024 false,.tst 1052013024 false,.tst 1055013024 false]) (o:=.fz [9] []) (g:=cg [(false,nb [c0] [39]),(false,nb [c0] [34]),(false,nb [c0] [62]),(false,bX c0)]) (aA t3 (aA t2 (aA t1 (aA t0 aH)))) (an h1 trivial) (by kernel_rfl)) a1.none
 |_=>exact trivial
noncomputable def De:CT→Nm→Option Res
 |.doc n p q k,[]=>some ⟨true,304,.dead (Tok.doc n p q false).toD,[.err Um,.doc n p q false],[]⟩
 |.doc n p q k,c0::l1=>bif bX c0 then some ⟨true,731,.doc n p q k,[],l1⟩else bif bP 39 34 c0 then some ⟨true,731,.doc n p q k,[.err Uk],c0::l1⟩else some ⟨true,731,.doc n p q k,[],c0::l1⟩
 |_,_=>none
theorem QI {z:c8}{i j:Int}{r:Stm}{ms l:Nm}{ct:CT}(sm:ct.Small)(a:At' r ms l):Exs z 724 ct i j r (De ct l):=by
 cases ct with
 |doc n p q k=>
  have hn:n.length≤1000:=sm.1
  cases l with
  |nil=>
   obtain⟨i1,j1,r1,h1,a1⟩:=aN (z:=z) (i:=i) (j:=j) a
   exact .mk i1 j1 r1 [.gone] (.inr rfl) (z.use (hs:=[aG i1 j1 r1 (.dat .non)]) (o:=.fz [9,7] []) (g:=cg []) aH (an h1 trivial) (by kernel_rfl)) (a1 [])
  |cons c0 l1=>
   obtain⟨i1,j1,r1,h1,a1⟩:=aO (z:=z) (i:=i) (j:=j) a
   refine dN (fun t0=>?_) (fun t0=>?_)
   ·exact .mk i1 j1 r1 [] (.inl rfl) (z.use (hs:=[aG i1 j1 r1 (.dat (.str [c0])),.tst 1071011034 true]) (o:=.fz [] []) (g:=cg [(true,bX c0)]) (aA t0 aH) (an h1 trivial) (by kernel_rfl)) a1.none
   ·refine dN (fun t1=>?_) (fun t1=>?_)
    ·obtain⟨r2,h2,a2⟩:=aK (z:=z) (i:=i1) (j:=j1) a1 a.len
     exact .mk i1 j1 r2 [] (.inl rfl) (z.use (hs:=[aG i1 j1 r1 (.dat (.str [c0])),.tst 1071011034 false,.tst 1073013031 true,bN i1 j1 r2]) (o:=.fz [9] []) (g:=cg [(true,bP 39 34 c0),(false,bX c0)]) (aA t1 (aA t0 aH)) (an h2 (an h1 trivial)) (by kernel_rfl)) a2.none
    ·obtain⟨r2,h2,a2⟩:=aK (z:=z) (i:=i1) (j:=j1) a1 a.len
     exact .mk i1 j1 r2 [] (.inl rfl) (z.use (hs:=[aG i1 j1 r1 (.dat (.str [c0])),.tst 1071011034 false,.tst 1073013031 false,bN i1 j1 r2]) (o:=.fz [] []) (g:=cg [(false,bP 39 34 c0),(false,bX c0)]) (aA t1 (aA t0 aH)) (an h2 (an h1 trivial)) (by kernel_rfl)) a2.none
 |_=>exact trivial
noncomputable def Df:CT→Nm→Option Res
 |.doc n p q k,[]=>some ⟨true,304,.dead (Tok.doc n p q false).toD,[.err Um,.doc n p q false],[]⟩
 |.doc n p q k,c0::l1=>bif bX c0 then some ⟨true,731,.doc n p q k,[],l1⟩else bif nb [c0] [34]then some ⟨true,738,.doc n p (some []) k,[],l1⟩else bif nb [c0] [39]then some ⟨true,745,.doc n p (some []) k,[],l1⟩else bif nb [c0] [62]then some ⟨true,304,.dead (Tok.doc n p q false).toD,[.err Uk,.doc n p q false],l1⟩else some ⟨true,759,.doc n p q false,[.err Uk],l1⟩
 |_,_=>none
theorem QJ {z:c8}{i j:Int}{r:Stm}{ms l:Nm}{ct:CT}(sm:ct.Small)(a:At' r ms l):Exs z 731 ct i j r (Df ct l):=by
 cases ct with
 |doc n p q k=>
  have hn:n.length≤1000:=sm.1
  cases l with
  |nil=>
   obtain⟨i1,j1,r1,h1,a1⟩:=aN (z:=z) (i:=i) (j:=j) a
   exact .mk i1 j1 r1 [.gone] (.inr rfl) (z.use (hs:=[aG i1 j1 r1 (.dat .non)]) (o:=.fz [9,7] []) (g:=cg []) aH (an h1 trivial) (by kernel_rfl)) (a1 [])
  |cons c0 l1=>
   obtain⟨i1,j1,r1,h1,a1⟩:=aO (z:=z) (i:=i) (j:=j) a
   refine dN (fun t0=>?_) (fun t0=>?_)
   ·exact .mk i1 j1 r1 [] (.inl rfl) (z.use (hs:=[aG i1 j1 r1 (.dat (.str [c0])),.tst 1089011034 true]) (o:=.fz [] []) (g:=cg [(true,bX c0)]) (aA t0 aH) (an h1 trivial) (by kernel_rfl)) a1.none
   ·refine dN (fun t1=>?_) (fun t1=>?_)
    ·obtain rfl:=aT t1
     exact .mk i1 j1 r1 [] (.inl rfl) (z.use (hs:=[aG i1 j1 r1 (.dat (.str [34]))]) (o:=.fz [] []) (g:=cg []) aH (an h1 trivial) (by kernel_rfl)) a1.none
    ·refine dN (fun t2=>?_) (fun t2=>?_)
     ·obtain rfl:=aT t2
      exact .mk i1 j1 r1 [] (.inl rfl) (z.use (hs:=[aG i1 j1 r1 (.dat (.str [39]))]) (o:=.fz [] []) (g:=cg []) aH (an h1 trivial) (by kernel_rfl)) a1.none
     ·refine dN (fun t3=>?_) (fun t3=>?_)
      ·obtain rfl:=aT t3
       exact .mk i1 j1 r1 [.gone] (.inr rfl) (z.use (hs:=[aG i1 j1 r1 (.dat (.str [62]))]) (o:=.fz [9,7] []) (g:=cg []) aH (an h1 trivial) (by kernel_rfl)) a1.none
      ·exact .mk i1 j1 r1 [] (.inl rfl) (z.use (hs:=[aG i1 j1 r1 (.dat (.str [c0])),.tst 1089011034 false,.tst 1091013024 false,.tst 1094013024 false,.tst 1097013024 false]) (o:=.fz [9] []) (g:=cg [(false,nb [c0] [62]),(false,nb [c0] [39]),(false,nb [c0] [34]),(false,bX c0)]) (aA t3 (aA t2 (aA t1 (aA t0 aH)))) (an h1 trivial) (by kernel_rfl)) a1.none
 |_=>exact trivial
noncomputable def Dg:CT→Nm→Option Res
 |.doc n p q k,[]=>some ⟨true,304,.dead (Tok.doc n p q false).toD,[.err Um,.doc n p q false],[]⟩
 |.doc n p q k,c0::l1=>bif bX c0 then some ⟨true,752,.doc n p q k,[],l1⟩else bif nb [c0] [62]then some ⟨true,304,.dead (Tok.doc n p q k).toD,[.doc n p q k],l1⟩else some ⟨true,759,.doc n p q k,[.err Uk],l1⟩
 |_,_=>none
theorem QK {z:c8}{i j:Int}{r:Stm}{ms l:Nm}{ct:CT}(sm:ct.Small)(a:At' r ms l):Exs z 752 ct i j r (Dg ct l):=by
 cases ct with
 |doc n p q k=>
  have hn:n.length≤1000:=sm.1
  cases l with
  |nil=>
   obtain⟨i1,j1,r1,h1,a1⟩:=aN (z:=z) (i:=i) (j:=j) a
   exact .mk i1 j1 r1 [.gone] (.inr rfl) (z.use (hs:=[aG i1 j1 r1 (.dat .non)]) (o:=.fz [9,7] []) (g:=cg []) aH (an h1 trivial) (by kernel_rfl)) (a1 [])
  |cons c0 l1=>
   obtain⟨i1,j1,r1,h1,a1⟩:=aO (z:=z) (i:=i) (j:=j) a
   refine dN (fun t0=>?_) (fun t0=>?_)
   ·exact .mk i1 j1 r1 [] (.inl rfl) (z.use (hs:=[aG i1 j1 r1 (.dat (.str [c0])),.tst 1157011034 true]) (o:=.fz [] []) (g:=cg [(true,bX c0)]) (aA t0 aH) (an h1 trivial) (by kernel_rfl)) a1.none
   ·refine dN (fun t1=>?_) (fun t1=>?_)
    ·obtain rfl:=aT t1
     exact .mk i1 j1 r1 [.gone] (.inr rfl) (z.use (hs:=[aG i1 j1 r1 (.dat (.str [62]))]) (o:=.fz [7] []) (g:=cg []) aH (an h1 trivial) (by kernel_rfl)) a1.none
    ·exact .mk i1 j1 r1 [] (.inl rfl) (z.use (hs:=[aG i1 j1 r1 (.dat (.str [c0])),.tst 1157011034 false,.tst 1159013024 false]) (o:=.fz [9] []) (g:=cg [(false,nb [c0] [62]),(false,bX c0)]) (aA t1 (aA t0 aH)) (an h1 trivial) (by kernel_rfl)) a1.none
 |_=>exact trivial
noncomputable def Dh:CT→Nm→Option Res
 |.doc n p q k,[]=>some ⟨true,304,.dead (Tok.doc n p q k).toD,[.doc n p q k],[]⟩
 |.doc n p q k,c0::l1=>bif nb [c0] [62]then some ⟨true,304,.dead (Tok.doc n p q k).toD,[.doc n p q k],l1⟩else some ⟨true,759,.doc n p q k,[],l1⟩
 |_,_=>none
theorem QM {z:c8}{i j:Int}{r:Stm}{ms l:Nm}{ct:CT}(sm:ct.Small)(a:At' r ms l):Exs z 759 ct i j r (Dh ct l):=by
 cases ct with
 |doc n p q k=>
  have hn:n.length≤1000:=sm.1
  cases l with
  |nil=>
   obtain⟨i1,j1,r1,h1,a1⟩:=aN (z:=z) (i:=i) (j:=j) a
   exact .mk i1 j1 r1 [.gone] (.inr rfl) (z.use (hs:=[aG i1 j1 r1 (.dat .non),bN i1 j1 r1]) (o:=.fz [7] []) (g:=cg []) (ob:=dH z i1 j1 r1 (.dat .non) r1∧bR z i j r (.dat .non) i1 j1 r1∧True) aH ⟨bV,h1,trivial⟩ (by kernel_rfl)) (a1 [])
  |cons c0 l1=>
   obtain⟨i1,j1,r1,h1,a1⟩:=aO (z:=z) (i:=i) (j:=j) a
   refine dN (fun t0=>?_) (fun t0=>?_)
   ·obtain rfl:=aT t0
    exact .mk i1 j1 r1 [.gone] (.inr rfl) (z.use (hs:=[aG i1 j1 r1 (.dat (.str [62]))]) (o:=.fz [7] []) (g:=cg []) aH (an h1 trivial) (by kernel_rfl)) a1.none
   ·exact .mk i1 j1 r1 [] (.inl rfl) (z.use (hs:=[aG i1 j1 r1 (.dat (.str [c0])),.tst 1174011022 false]) (o:=.fz [] []) (g:=cg [(false,nb [c0] [62])]) (aA t0 aH) (an h1 trivial) (by kernel_rfl)) a1.none
 |_=>exact trivial
noncomputable def Di:CT→Nm→Option Res
 |.doc n (some p) q k,[]=>some ⟨true,304,.dead (Tok.doc n (some p) q false).toD,[.err Um,.doc n (some p) q false],[]⟩
 |.doc n (some p) q k,c0::l1=>bif nb [c0] [34]then some ⟨true,710,.doc n (some p) q k,[],l1⟩else bif nb [c0] [0]then some ⟨true,696,.doc n (some (p++[65533])) q k,[.err Ul],l1⟩else bif nb [c0] [62]then some ⟨true,304,.dead (Tok.doc n (some p) q false).toD,[.err Un,.doc n (some p) q false],l1⟩else some ⟨true,696,.doc n (some (p++[c0])) q k,[],l1⟩
 |_,_=>none
theorem QN {z:c8}{i j:Int}{r:Stm}{ms l:Nm}{ct:CT}(sm:ct.Small)(a:At' r ms l):Exs z 696 ct i j r (Di ct l):=by
 cases ct with
 |doc n p q k=>
  have hn:n.length≤1000:=sm.1
  cases p with
  |none=>exact trivial
  |some p=>
   have hp:p.length≤1000:=sm.2.1
   cases l with
   |nil=>
    obtain⟨i1,j1,r1,h1,a1⟩:=aN (z:=z) (i:=i) (j:=j) a
    exact .mk i1 j1 r1 [.gone] (.inr rfl) (z.use (hs:=[aG i1 j1 r1 (.dat .non)]) (o:=.fz [9,7] []) (g:=cg []) aH (an h1 trivial) (by kernel_rfl)) (a1 [])
   |cons c0 l1=>
    obtain⟨i1,j1,r1,h1,a1⟩:=aO (z:=z) (i:=i) (j:=j) a
    refine dN (fun t0=>?_) (fun t0=>?_)
    ·obtain rfl:=aT t0
     exact .mk i1 j1 r1 [] (.inl rfl) (z.use (hs:=[aG i1 j1 r1 (.dat (.str [34]))]) (o:=.fz [] []) (g:=cg []) aH (an h1 trivial) (by kernel_rfl)) a1.none
    ·refine dN (fun t1=>?_) (fun t1=>?_)
     ·obtain rfl:=aT t1
      exact .mk i1 j1 r1 [] (.inl rfl) (z.use (hs:=[aG i1 j1 r1 (.dat (.str [0]))]) (o:=.fz [9] []) (g:=cg [(true,Nat.ble ((p:Nm).length+([65533]:Nm).length) lim)]) (aA (gC hp (Nat.le_refl 1) rfl) aH) (an h1 trivial) (by kernel_rfl)) a1.none
     ·refine dN (fun t2=>?_) (fun t2=>?_)
      ·obtain rfl:=aT t2
       exact .mk i1 j1 r1 [.gone] (.inr rfl) (z.use (hs:=[aG i1 j1 r1 (.dat (.str [62]))]) (o:=.fz [9,7] []) (g:=cg []) aH (an h1 trivial) (by kernel_rfl)) a1.none
      ·exact .mk i1 j1 r1 [] (.inl rfl) (z.use (hs:=[aG i1 j1 r1 (.dat (.str [c0])),.tst 979011022 false,.tst 981013027 false,.tst 984013024 false]) (o:=.fz [] []) (g:=cg [(true,Nat.ble ((p:Nm).length+([c0]:Nm).length) lim),(false,nb [c0] [62]),(false,nb [c0] [0]),(false,nb [c0] [34])]) (aA (gC hp (Nat.le_refl 1) rfl) (aA t2 (aA t1 (aA t0 aH)))) (an h1 trivial) (by kernel_rfl)) a1.none
 |_=>exact trivial
noncomputable def Dj:CT→Nm→Option Res
 |.doc n (some p) q k,[]=>some ⟨true,304,.dead (Tok.doc n (some p) q false).toD,[.err Um,.doc n (some p) q false],[]⟩
 |.doc n (some p) q k,c0::l1=>bif nb [c0] [39]then some ⟨true,710,.doc n (some p) q k,[],l1⟩else bif nb [c0] [0]then some ⟨true,703,.doc n (some (p++[65533])) q k,[.err Ul],l1⟩else bif nb [c0] [62]then some ⟨true,304,.dead (Tok.doc n (some p) q false).toD,[.err Un,.doc n (some p) q false],l1⟩else some ⟨true,703,.doc n (some (p++[c0])) q k,[],l1⟩
 |_,_=>none
theorem QO {z:c8}{i j:Int}{r:Stm}{ms l:Nm}{ct:CT}(sm:ct.Small)(a:At' r ms l):Exs z 703 ct i j r (Dj ct l):=by
 cases ct with
 |doc n p q k=>
  have hn:n.length≤1000:=sm.1
  cases p with
  |none=>exact trivial
  |some p=>
   have hp:p.length≤1000:=sm.2.1
   cases l with
   |nil=>
    obtain⟨i1,j1,r1,h1,a1⟩:=aN (z:=z) (i:=i) (j:=j) a
    exact .mk i1 j1 r1 [.gone] (.inr rfl) (z.use (hs:=[aG i1 j1 r1 (.dat .non)]) (o:=.fz [9,7] []) (g:=cg []) aH (an h1 trivial) (by kernel_rfl)) (a1 [])
   |cons c0 l1=>
    obtain⟨i1,j1,r1,h1,a1⟩:=aO (z:=z) (i:=i) (j:=j) a
    refine dN (fun t0=>?_) (fun t0=>?_)
    ·obtain rfl:=aT t0
     exact .mk i1 j1 r1 [] (.inl rfl) (z.use (hs:=[aG i1 j1 r1 (.dat (.str [39]))]) (o:=.fz [] []) (g:=cg []) aH (an h1 trivial) (by kernel_rfl)) a1.none
    ·refine dN (fun t1=>?_) (fun t1=>?_)
     ·obtain rfl:=aT t1
      exact .mk i1 j1 r1 [] (.inl rfl) (z.use (hs:=[aG i1 j1 r1 (.dat (.str [0]))]) (o:=.fz [9] []) (g:=cg [(true,Nat.ble ((p:Nm).length+([65533]:Nm).length) lim)]) (aA (gC hp (Nat.le_refl 1) rfl) aH) (an h1 trivial) (by kernel_rfl)) a1.none
     ·refine dN (fun t2=>?_) (fun t2=>?_)
      ·obtain rfl:=aT t2
       exact .mk i1 j1 r1 [.gone] (.inr rfl) (z.use (hs:=[aG i1 j1 r1 (.dat (.str [62]))]) (o:=.fz [9,7] []) (g:=cg []) aH (an h1 trivial) (by kernel_rfl)) a1.none
      ·exact .mk i1 j1 r1 [] (.inl rfl) (z.use (hs:=[aG i1 j1 r1 (.dat (.str [c0])),.tst 1000011022 false,.tst 1002013027 false,.tst 1005013024 false]) (o:=.fz [] []) (g:=cg [(true,Nat.ble ((p:Nm).length+([c0]:Nm).length) lim),(false,nb [c0] [62]),(false,nb [c0] [0]),(false,nb [c0] [39])]) (aA (gC hp (Nat.le_refl 1) rfl) (aA t2 (aA t1 (aA t0 aH)))) (an h1 trivial) (by kernel_rfl)) a1.none
 |_=>exact trivial
noncomputable def Dk:CT→Nm→Option Res
 |.doc n p (some q) k,[]=>some ⟨true,304,.dead (Tok.doc n p (some q) false).toD,[.err Um,.doc n p (some q) false],[]⟩
 |.doc n p (some q) k,c0::l1=>bif nb [c0] [34]then some ⟨true,752,.doc n p (some q) k,[],l1⟩else bif nb [c0] [0]then some ⟨true,738,.doc n p (some (q++[65533])) k,[.err Ul],l1⟩else bif nb [c0] [62]then some ⟨true,304,.dead (Tok.doc n p (some q) false).toD,[.err Un,.doc n p (some q) false],l1⟩else some ⟨true,738,.doc n p (some (q++[c0])) k,[],l1⟩
 |_,_=>none
theorem QP {z:c8}{i j:Int}{r:Stm}{ms l:Nm}{ct:CT}(sm:ct.Small)(a:At' r ms l):Exs z 738 ct i j r (Dk ct l):=by
 cases ct with
 |doc n p q k=>
  have hn:n.length≤1000:=sm.1
  cases q with
  |none=>exact trivial
  |some q=>
   have hq:q.length≤1000:=sm.2.2
   cases l with
   |nil=>
    obtain⟨i1,j1,r1,h1,a1⟩:=aN (z:=z) (i:=i) (j:=j) a
    exact .mk i1 j1 r1 [.gone] (.inr rfl) (z.use (hs:=[aG i1 j1 r1 (.dat .non)]) (o:=.fz [9,7] []) (g:=cg []) aH (an h1 trivial) (by kernel_rfl)) (a1 [])
   |cons c0 l1=>
    obtain⟨i1,j1,r1,h1,a1⟩:=aO (z:=z) (i:=i) (j:=j) a
    refine dN (fun t0=>?_) (fun t0=>?_)
    ·obtain rfl:=aT t0
     exact .mk i1 j1 r1 [] (.inl rfl) (z.use (hs:=[aG i1 j1 r1 (.dat (.str [34]))]) (o:=.fz [] []) (g:=cg []) aH (an h1 trivial) (by kernel_rfl)) a1.none
    ·refine dN (fun t1=>?_) (fun t1=>?_)
     ·obtain rfl:=aT t1
      exact .mk i1 j1 r1 [] (.inl rfl) (z.use (hs:=[aG i1 j1 r1 (.dat (.str [0]))]) (o:=.fz [9] []) (g:=cg [(true,Nat.ble ((q:Nm).length+([65533]:Nm).length) lim)]) (aA (gC hq (Nat.le_refl 1) rfl) aH) (an h1 trivial) (by kernel_rfl)) a1.none
     ·refine dN (fun t2=>?_) (fun t2=>?_)
      ·obtain rfl:=aT t2
       exact .mk i1 j1 r1 [.gone] (.inr rfl) (z.use (hs:=[aG i1 j1 r1 (.dat (.str [62]))]) (o:=.fz [9,7] []) (g:=cg []) aH (an h1 trivial) (by kernel_rfl)) a1.none
      ·exact .mk i1 j1 r1 [] (.inl rfl) (z.use (hs:=[aG i1 j1 r1 (.dat (.str [c0])),.tst 1115011022 false,.tst 1117013027 false,.tst 1120013024 false]) (o:=.fz [] []) (g:=cg [(true,Nat.ble ((q:Nm).length+([c0]:Nm).length) lim),(false,nb [c0] [62]),(false,nb [c0] [0]),(false,nb [c0] [34])]) (aA (gC hq (Nat.le_refl 1) rfl) (aA t2 (aA t1 (aA t0 aH)))) (an h1 trivial) (by kernel_rfl)) a1.none
 |_=>exact trivial
noncomputable def Dl:CT→Nm→Option Res
 |.doc n p (some q) k,[]=>some ⟨true,304,.dead (Tok.doc n p (some q) false).toD,[.err Um,.doc n p (some q) false],[]⟩
 |.doc n p (some q) k,c0::l1=>bif nb [c0] [39]then some ⟨true,752,.doc n p (some q) k,[],l1⟩else bif nb [c0] [0]then some ⟨true,745,.doc n p (some (q++[65533])) k,[.err Ul],l1⟩else bif nb [c0] [62]then some ⟨true,304,.dead (Tok.doc n p (some q) false).toD,[.err Un,.doc n p (some q) false],l1⟩else some ⟨true,745,.doc n p (some (q++[c0])) k,[],l1⟩
 |_,_=>none
theorem QR {z:c8}{i j:Int}{r:Stm}{ms l:Nm}{ct:CT}(sm:ct.Small)(a:At' r ms l):Exs z 745 ct i j r (Dl ct l):=by
 cases ct with
 |doc n p q k=>
  have hn:n.length≤1000:=sm.1
  cases q with
  |none=>exact trivial
  |some q=>
   have hq:q.length≤1000:=sm.2.2
   cases l with
   |nil=>
    obtain⟨i1,j1,r1,h1,a1⟩:=aN (z:=z) (i:=i) (j:=j) a
    exact .mk i1 j1 r1 [.gone] (.inr rfl) (z.use (hs:=[aG i1 j1 r1 (.dat .non)]) (o:=.fz [9,7] []) (g:=cg []) aH (an h1 trivial) (by kernel_rfl)) (a1 [])
   |cons c0 l1=>
    obtain⟨i1,j1,r1,h1,a1⟩:=aO (z:=z) (i:=i) (j:=j) a
    refine dN (fun t0=>?_) (fun t0=>?_)
    ·obtain rfl:=aT t0
     exact .mk i1 j1 r1 [] (.inl rfl) (z.use (hs:=[aG i1 j1 r1 (.dat (.str [39]))]) (o:=.fz [] []) (g:=cg []) aH (an h1 trivial) (by kernel_rfl)) a1.none
    ·refine dN (fun t1=>?_) (fun t1=>?_)
     ·obtain rfl:=aT t1
      exact .mk i1 j1 r1 [] (.inl rfl) (z.use (hs:=[aG i1 j1 r1 (.dat (.str [0]))]) (o:=.fz [9] []) (g:=cg [(true,Nat.ble ((q:Nm).length+([65533]:Nm).length) lim)]) (aA (gC hq (Nat.le_refl 1) rfl) aH) (an h1 trivial) (by kernel_rfl)) a1.none
     ·refine dN (fun t2=>?_) (fun t2=>?_)
      ·obtain rfl:=aT t2
       exact .mk i1 j1 r1 [.gone] (.inr rfl) (z.use (hs:=[aG i1 j1 r1 (.dat (.str [62]))]) (o:=.fz [9,7] []) (g:=cg []) aH (an h1 trivial) (by kernel_rfl)) a1.none
      ·exact .mk i1 j1 r1 [] (.inl rfl) (z.use (hs:=[aG i1 j1 r1 (.dat (.str [c0])),.tst 1136011022 false,.tst 1138013027 false,.tst 1141013024 false]) (o:=.fz [] []) (g:=cg [(true,Nat.ble ((q:Nm).length+([c0]:Nm).length) lim),(false,nb [c0] [62]),(false,nb [c0] [0]),(false,nb [c0] [39])]) (aA (gC hq (Nat.le_refl 1) rfl) (aA t2 (aA t1 (aA t0 aH)))) (an h1 trivial) (by kernel_rfl)) a1.none
 |_=>exact trivial
end
section
noncomputable def Dm:CT→Nm→Option Res
 |.dead d,[]=>some ⟨false,304,.dead d,[],[]⟩
 |.dead d,c0::l1=>bif nb [c0] [38]then some ⟨true,311,.dead d,[],l1⟩else bif nb [c0] [60]then some ⟨true,353,.dead d,[],l1⟩else bif nb [c0] [0]then some ⟨true,304,.dead d,[.err Ul,.chr1 [0]],l1⟩else bif bX c0 then some ⟨true,304,.dead d,[.chr2 ([c0]++(l1.takeWhile (kN bX true)))],(l1.dropWhile (kN bX true))⟩else some ⟨true,304,.dead d,[.chr1 ([c0]++(l1.takeWhile (kN sA false)))],(l1.dropWhile (kN sA false))⟩
 |_,_=>none
theorem QT {z:c8}{i j:Int}{r:Stm}{ms l:Nm}{ct:CT}(sm:ct.Small)(a:At' r ms l):Exs z 304 ct i j r (Dm ct l):=by
 cases ct with
 |dead d=>
  cases l with
  |nil=>
   obtain⟨i1,j1,r1,h1,a1⟩:=aN (z:=z) (i:=i) (j:=j) a
   exact .mk i1 j1 r1 [] (.inl rfl) (z.use (hs:=[aG i1 j1 r1 (.dat .non)]) (o:=.fz [] []) (g:=cg []) aH (an h1 trivial) (by kernel_rfl)) (a1 [])
  |cons c0 l1=>
   obtain⟨i1,j1,r1,h1,a1⟩:=aO (z:=z) (i:=i) (j:=j) a
   refine dN (fun t0=>?_) (fun t0=>?_)
   ·obtain rfl:=aT t0
    exact .mk i1 j1 r1 [] (.inl rfl) (z.use (hs:=[aG i1 j1 r1 (.dat (.str [38]))]) (o:=.fz [] []) (g:=cg []) aH (an h1 trivial) (by kernel_rfl)) a1.none
   ·refine dN (fun t1=>?_) (fun t1=>?_)
    ·obtain rfl:=aT t1
     exact .mk i1 j1 r1 [] (.inl rfl) (z.use (hs:=[aG i1 j1 r1 (.dat (.str [60]))]) (o:=.fz [] []) (g:=cg []) aH (an h1 trivial) (by kernel_rfl)) a1.none
    ·refine dN (fun t2=>?_) (fun t2=>?_)
     ·obtain rfl:=aT t2
      exact .mk i1 j1 r1 [] (.inl rfl) (z.use (hs:=[aG i1 j1 r1 (.dat (.str [0]))]) (o:=.fz [8,9] []) (g:=cg []) aH (an h1 trivial) (by kernel_rfl)) a1.none
     ·refine dN (fun t3=>?_) (fun t3=>?_)
      ·obtain⟨i2,j2,r2,h2,a2⟩:=mM (z:=z) (opp:=true) (i:=i1) (j:=j1) IR a1 [.dat eR,.dat (.boo true)] (.inr rfl)
       exact .mk i2 j2 r2 [] (.inl rfl) (z.use (hs:=[aG i1 j1 r1 (.dat (.str [c0])),.tst 305011022 false,.tst 307013024 false,.tst 309013027 false,.tst 314013036 true,DJ i2 j2 r2 (l1.takeWhile (kN bX true))]) (o:=.fz [8] []) (g:=cg [(true,Nat.ble (([c0]:Nm).length+((l1.takeWhile (kN bX true)):Nm).length) lim),(true,bX c0),(false,nb [c0] [0]),(false,nb [c0] [60]),(false,nb [c0] [38])]) (aA (gC (Nat.le_refl 1) (v4 a1) rfl) (aA t3 (aA t2 (aA t1 (aA t0 aH))))) (an h2 (an h1 trivial)) (by kernel_rfl)) a2.none
      ·obtain⟨i2,j2,r2,h2,a2⟩:=mM (z:=z) (opp:=false) (i:=i1) (j:=j1) DG a1 [.dat (.tup [.str [38],.str [60],.str [0]])] (.inl ⟨rfl,rfl⟩)
       exact .mk i2 j2 r2 [] (.inl rfl) (z.use (hs:=[aG i1 j1 r1 (.dat (.str [c0])),.tst 305011022 false,.tst 307013024 false,.tst 309013027 false,.tst 314013036 false,DJ i2 j2 r2 (l1.takeWhile (kN sA false))]) (o:=.fz [8] []) (g:=cg [(true,Nat.ble (([c0]:Nm).length+((l1.takeWhile (kN sA false)):Nm).length) lim),(false,bX c0),(false,nb [c0] [0]),(false,nb [c0] [60]),(false,nb [c0] [38])]) (aA (gC (Nat.le_refl 1) (v4 a1) rfl) (aA t3 (aA t2 (aA t1 (aA t0 aH))))) (an h2 (an h1 trivial)) (by kernel_rfl)) a2.none
 |_=>exact trivial
noncomputable def Dn:CT→Nm→Option Res
 |.dead d,[]=>some ⟨true,304,.dead d,[.err Uu,.chr1 [60]],[]⟩
 |.dead d,c0::l1=>bif nb [c0] [33]then some ⟨true,605,.dead d,[],l1⟩else bif nb [c0] [47]then some ⟨true,360,.dead d,[],l1⟩else bif zH c0 then none else bif nb [c0] [62]then some ⟨true,304,.dead d,[.err Ut,.chr1 [60,62]],l1⟩else bif nb [c0] [63]then some ⟨true,598,.dead d,[.err Us],63::l1⟩else some ⟨true,304,.dead d,[.err Uu,.chr1 [60]],c0::l1⟩
 |_,_=>none
theorem QV {z:c8}{i j:Int}{r:Stm}{ms l:Nm}{ct:CT}(sm:ct.Small)(a:At' r ms l):Exs z 353 ct i j r (Dn ct l):=by
 cases ct with
 |dead d=>
  cases l with
  |nil=>
   obtain⟨i1,j1,r1,h1,a1⟩:=aN (z:=z) (i:=i) (j:=j) a
   exact .mk i1 j1 r1 [] (.inl rfl) (z.use (hs:=[aG i1 j1 r1 (.dat .non),bN i1 j1 r1]) (o:=.fz [8,9] []) (g:=cg []) (ob:=dH z i1 j1 r1 (.dat .non) r1∧bR z i j r (.dat .non) i1 j1 r1∧True) aH ⟨bV,h1,trivial⟩ (by kernel_rfl)) (a1 [])
  |cons c0 l1=>
   obtain⟨i1,j1,r1,h1,a1⟩:=aO (z:=z) (i:=i) (j:=j) a
   refine dN (fun t0=>?_) (fun t0=>?_)
   ·obtain rfl:=aT t0
    exact .mk i1 j1 r1 [] (.inl rfl) (z.use (hs:=[aG i1 j1 r1 (.dat (.str [33]))]) (o:=.fz [] []) (g:=cg []) aH (an h1 trivial) (by kernel_rfl)) a1.none
   ·refine dN (fun t1=>?_) (fun t1=>?_)
    ·obtain rfl:=aT t1
     exact .mk i1 j1 r1 [] (.inl rfl) (z.use (hs:=[aG i1 j1 r1 (.dat (.str [47]))]) (o:=.fz [] []) (g:=cg []) aH (an h1 trivial) (by kernel_rfl)) a1.none
    ·refine dN (fun t2=>?_) (fun t2=>?_)
     ·exact trivial
     ·refine dN (fun t3=>?_) (fun t3=>?_)
      ·obtain rfl:=aT t3
       exact .mk i1 j1 r1 [] (.inl rfl) (z.use (hs:=[aG i1 j1 r1 (.dat (.str [62]))]) (o:=.fz [8,9] []) (g:=cg []) aH (an h1 trivial) (by kernel_rfl)) a1.none
      ·refine dN (fun t4=>?_) (fun t4=>?_)
       ·obtain rfl:=aT t4
        obtain⟨r2,h2,a2⟩:=aK (z:=z) (i:=i1) (j:=j1) a1 a.len
        exact .mk i1 j1 r2 [] (.inl rfl) (z.use (hs:=[aG i1 j1 r1 (.dat (.str [63])),bN i1 j1 r2]) (o:=.fz [8] []) (g:=cg []) aH (an h2 (an h1 trivial)) (by kernel_rfl)) a2.none
       ·obtain⟨r2,h2,a2⟩:=aK (z:=z) (i:=i1) (j:=j1) a1 a.len
        exact .mk i1 j1 r2 [] (.inl rfl) (z.use (hs:=[aG i1 j1 r1 (.dat (.str [c0])),.tst 343011022 false,.tst 345013024 false,.tst 347013033 false,.tst 350013024 false,.tst 354013024 false,bN i1 j1 r2]) (o:=.fz [8,9] []) (g:=cg [(false,nb [c0] [63]),(false,nb [c0] [62]),(false,zH c0),(false,nb [c0] [47]),(false,nb [c0] [33])]) (aA t4 (aA t3 (aA t2 (aA t1 (aA t0 aH))))) (an h2 (an h1 trivial)) (by kernel_rfl)) a2.none
 |_=>exact trivial
noncomputable def Do:CT→Nm→Option Res
 |.dead d,[]=>some ⟨true,304,.dead d,[.err Uw,.chr1 [60,47]],[]⟩
 |.dead d,c0::l1=>bif zH c0 then none else bif nb [c0] [62]then some ⟨true,304,.dead d,[.err Ur],l1⟩else some ⟨true,598,.dead d,[.erv Uv (.dct [(cX,.str [c0])])],c0::l1⟩
 |_,_=>none
theorem QW {z:c8}{i j:Int}{r:Stm}{ms l:Nm}{ct:CT}(sm:ct.Small)(a:At' r ms l):Exs z 360 ct i j r (Do ct l):=by
 cases ct with
 |dead d=>
  cases l with
  |nil=>
   obtain⟨i1,j1,r1,h1,a1⟩:=aN (z:=z) (i:=i) (j:=j) a
   exact .mk i1 j1 r1 [] (.inl rfl) (z.use (hs:=[aG i1 j1 r1 (.dat .non)]) (o:=.fz [8,9] []) (g:=cg []) aH (an h1 trivial) (by kernel_rfl)) (a1 [])
  |cons c0 l1=>
   obtain⟨i1,j1,r1,h1,a1⟩:=aO (z:=z) (i:=i) (j:=j) a
   refine dN (fun t0=>?_) (fun t0=>?_)
   ·exact trivial
   ·refine dN (fun t1=>?_) (fun t1=>?_)
    ·obtain rfl:=aT t1
     exact .mk i1 j1 r1 [] (.inl rfl) (z.use (hs:=[aG i1 j1 r1 (.dat (.str [62]))]) (o:=.fz [8] []) (g:=cg []) aH (an h1 trivial) (by kernel_rfl)) a1.none
    ·obtain⟨r2,h2,a2⟩:=aK (z:=z) (i:=i1) (j:=j1) a1 a.len
     exact .mk i1 j1 r2 [] (.inl rfl) (z.use (hs:=[aG i1 j1 r1 (.dat (.str [c0])),.tst 367011031 false,.tst 370013024 false,bN i1 j1 r2]) (o:=.fz [9,8] []) (g:=cg [(false,nb [c0] [62]),(false,zH c0)]) (aA t1 (aA t0 aH)) (an h2 (an h1 trivial)) (by kernel_rfl)) a2.none
 |_=>exact trivial
end
section
noncomputable def Dp (d:D):Nm→Option Res
 | []=>some ⟨true,598,.dead d,[.err Uj],45::[]⟩
 |c1::l2=>bif nb [c1] [45]then some ⟨true,612,.com [],[],l2⟩else some ⟨true,598,.dead d,[.err Uj],45::c1::l2⟩
noncomputable def Dq (c0:Nat)(c1:Nat)(c2:Nat)(c3:Nat)(c4:Nat)(c5:Nat)(d:D):Nm→Option Res
 | []=>some ⟨true,598,.dead d,[.err Uj],c0::c1::c2::c3::c4::c5::[]⟩
 |c6::l7=>bif bP 101 69 c6 then some ⟨true,654,.doc [] none none true,[],l7⟩else some ⟨true,598,.dead d,[.err Uj],c0::c1::c2::c3::c4::c5::c6::l7⟩
noncomputable def Dr (c0:Nat)(c1:Nat)(c2:Nat)(c3:Nat)(c4:Nat)(d:D):Nm→Option Res
 | []=>some ⟨true,598,.dead d,[.err Uj],c0::c1::c2::c3::c4::[]⟩
 |c5::l6=>bif bP 112 80 c5 then Dq c0 c1 c2 c3 c4 c5 d l6 else some ⟨true,598,.dead d,[.err Uj],c0::c1::c2::c3::c4::c5::l6⟩
noncomputable def Ds (c0:Nat)(c1:Nat)(c2:Nat)(c3:Nat)(d:D):Nm→Option Res
 | []=>some ⟨true,598,.dead d,[.err Uj],c0::c1::c2::c3::[]⟩
 |c4::l5=>bif bP 121 89 c4 then Dr c0 c1 c2 c3 c4 d l5 else some ⟨true,598,.dead d,[.err Uj],c0::c1::c2::c3::c4::l5⟩
noncomputable def Dt (c0:Nat)(c1:Nat)(c2:Nat)(d:D):Nm→Option Res
 | []=>some ⟨true,598,.dead d,[.err Uj],c0::c1::c2::[]⟩
 |c3::l4=>bif bP 116 84 c3 then Ds c0 c1 c2 c3 d l4 else some ⟨true,598,.dead d,[.err Uj],c0::c1::c2::c3::l4⟩
noncomputable def Du (c0:Nat)(c1:Nat)(d:D):Nm→Option Res
 | []=>some ⟨true,598,.dead d,[.err Uj],c0::c1::[]⟩
 |c2::l3=>bif bP 99 67 c2 then Dt c0 c1 c2 d l3 else some ⟨true,598,.dead d,[.err Uj],c0::c1::c2::l3⟩
noncomputable def Dv (c0:Nat)(d:D):Nm→Option Res
 | []=>some ⟨true,598,.dead d,[.err Uj],c0::[]⟩
 |c1::l2=>bif bP 111 79 c1 then Du c0 c1 d l2 else some ⟨true,598,.dead d,[.err Uj],c0::c1::l2⟩
noncomputable def Dw:CT→Nm→Option Res
 |.dead d,[]=>some ⟨true,598,.dead d,[.err Uj],[]⟩
 |.dead d,c0::l1=>bif nb [c0] [45]then Dp d l1 else bif bP 100 68 c0 then Dv c0 d l1 else some ⟨true,598,.dead d,[.err Uj],c0::l1⟩
 |_,_=>none
theorem QX {z:c8}{i j:Int}{r:Stm}{ms l:Nm}{ct:CT}(sm:ct.Small)(a:At' r ms l):Exs z 605 ct i j r (Dw ct l):=by
 cases ct with
 |dead d=>
  cases l with
  |nil=>
   obtain⟨i1,j1,r1,h1,a1⟩:=aN (z:=z) (i:=i) (j:=j) a
   exact .mk i1 j1 r1 [] (.inl rfl) (z.use (hs:=[aG i1 j1 r1 (.dat .non),bN i1 j1 r1]) (o:=.fz [9] []) (g:=cg []) (ob:=dH z i1 j1 r1 (.dat .non) r1∧bR z i j r (.dat .non) i1 j1 r1∧True) aH ⟨bV,h1,trivial⟩ (by kernel_rfl)) (a1 [])
  |cons c0 l1=>
   obtain⟨i1,j1,r1,h1,a1⟩:=aO (z:=z) (i:=i) (j:=j) a
   refine dN (fun t0=>?_) (fun t0=>?_)
   ·obtain rfl:=aT t0
    cases l1 with
    |nil=>
     obtain⟨i2,j2,r2,h2,a2⟩:=aN (z:=z) (i:=i1) (j:=j1) a1
     obtain⟨r3,h3,a3⟩:=aK (z:=z) (i:=i2) (j:=j2) (a2 [45]) a.len
     exact .mk i2 j2 r3 [] (.inl rfl) (z.use (hs:=[aG i1 j1 r1 (.dat (.str [45])),aG i2 j2 r2 (.dat .non),bN i2 j2 r2,bN i2 j2 r3]) (o:=.fz [9] []) (g:=cg []) (ob:=dH z i2 j2 r2 (.dat (.str [45])) r3∧dH z i2 j2 r2 (.dat .non) r2∧bR z i1 j1 r1 (.dat .non) i2 j2 r2∧bR z i j r (.dat (.str [45])) i1 j1 r1∧True) aH ⟨h3,bV,h2,h1,trivial⟩ (by kernel_rfl)) a3.none
    |cons c1 l2=>
     obtain⟨i2,j2,r2,h2,a2⟩:=aO (z:=z) (i:=i1) (j:=j1) a1
     refine dN (fun t1=>?_) (fun t1=>?_)
     ·obtain rfl:=aT t1
      exact .mk i2 j2 r2 [] (.inl rfl) (z.use (hs:=[aG i1 j1 r1 (.dat (.str [45])),aG i2 j2 r2 (.dat (.str [45]))]) (o:=.fz [] [9]) (g:=cg []) aH (an h2 (an h1 trivial)) (by kernel_rfl)) a2.none
     ·obtain⟨r3,h3,a3⟩:=aK (z:=z) (i:=i2) (j:=j2) a2 a1.len
      obtain⟨r4,h4,a4⟩:=aK (z:=z) (i:=i2) (j:=j2) a3 a.len
      exact .mk i2 j2 r4 [] (.inl rfl) (z.use (hs:=[aG i1 j1 r1 (.dat (.str [45])),aG i2 j2 r2 (.dat (.str [c1])),.tst 693015035 false,bN i2 j2 r3,bN i2 j2 r4]) (o:=.fz [9] []) (g:=cg [(false,nb [c1] [45])]) (aA t1 aH) (an h4 (an h3 (an h2 (an h1 trivial)))) (by kernel_rfl)) a4.none
   ·refine dN (fun t1=>?_) (fun t1=>?_)
    ·cases l1 with
     |nil=>
      obtain⟨i2,j2,r2,h2,a2⟩:=aN (z:=z) (i:=i1) (j:=j1) a1
      obtain⟨r3,h3,a3⟩:=aK (z:=z) (i:=i2) (j:=j2) (a2 [c0]) a.len
      exact .mk i2 j2 r3 [] (.inl rfl) (z.use (hs:=[aG i1 j1 r1 (.dat (.str [c0])),.tst 691011031 false,.tst 697013040 true,aG i2 j2 r2 (.dat .non),bN i2 j2 r2,bN i2 j2 r3]) (o:=.fz [9] []) (g:=cg [(true,bP 100 68 c0),(false,nb [c0] [45])]) (ob:=dH z i2 j2 r2 (.dat (.str [c0])) r3∧dH z i2 j2 r2 (.dat .non) r2∧bR z i1 j1 r1 (.dat .non) i2 j2 r2∧bR z i j r (.dat (.str [c0])) i1 j1 r1∧True) (aA t1 (aA t0 aH)) ⟨h3,bV,h2,h1,trivial⟩ (by kernel_rfl)) a3.none
     |cons c1 l2=>
      obtain⟨i2,j2,r2,h2,a2⟩:=aO (z:=z) (i:=i1) (j:=j1) a1
      refine dN (fun t2=>?_) (fun t2=>?_)
      ·cases l2 with
       |nil=>
        obtain⟨i3,j3,r3,h3,a3⟩:=aN (z:=z) (i:=i2) (j:=j2) a2
        obtain⟨r4,h4,a4⟩:=aK (z:=z) (i:=i3) (j:=j3) (a3 [c1,c0]) a1.len
        obtain⟨r5,h5,a5⟩:=aK (z:=z) (i:=i3) (j:=j3) a4 a.len
        exact .mk i3 j3 r5 [] (.inl rfl) (z.use (hs:=[aG i1 j1 r1 (.dat (.str [c0])),.tst 691011031 false,.tst 697013040 true,aG i2 j2 r2 (.dat (.str [c1])),.tst 701019048 false,aG i3 j3 r3 (.dat .non),bN i3 j3 r3,bN i3 j3 r4,bN i3 j3 r5]) (o:=.fz [9] []) (g:=cg [(false,!bP 111 79 c1),(true,bP 100 68 c0),(false,nb [c0] [45])]) (ob:=dH z i3 j3 r4 (.dat (.str [c0])) r5∧dH z i3 j3 r3 (.dat (.str [c1])) r4∧dH z i3 j3 r3 (.dat .non) r3∧bR z i2 j2 r2 (.dat .non) i3 j3 r3∧bR z i1 j1 r1 (.dat (.str [c1])) i2 j2 r2∧bR z i j r (.dat (.str [c0])) i1 j1 r1∧True) (aA (congrArg (!·) t2) (aA t1 (aA t0 aH))) ⟨h5,h4,bV,h3,h2,h1,trivial⟩ (by kernel_rfl)) a5.none
       |cons c2 l3=>
        obtain⟨i3,j3,r3,h3,a3⟩:=aO (z:=z) (i:=i2) (j:=j2) a2
        refine dN (fun t3=>?_) (fun t3=>?_)
        ·cases l3 with
         |nil=>
          obtain⟨i4,j4,r4,h4,a4⟩:=aN (z:=z) (i:=i3) (j:=j3) a3
          obtain⟨r5,h5,a5⟩:=aK (z:=z) (i:=i4) (j:=j4) (a4 [c2,c1,c0]) a2.len
          obtain⟨r6,h6,a6⟩:=aK (z:=z) (i:=i4) (j:=j4) a5 a1.len
          obtain⟨r7,h7,a7⟩:=aK (z:=z) (i:=i4) (j:=j4) a6 a.len
          exact .mk i4 j4 r7 [] (.inl rfl) (z.use (hs:=[aG i1 j1 r1 (.dat (.str [c0])),.tst 691011031 false,.tst 697013040 true,aG i2 j2 r2 (.dat (.str [c1])),.tst 701019048 false,aG i3 j3 r3 (.dat (.str [c2])),.tst 701019048 false,aG i4 j4 r4 (.dat .non),bN i4 j4 r4,bN i4 j4 r5,bN i4 j4 r6,bN i4 j4 r7]) (o:=.fz [9] []) (g:=cg [(false,!bP 99 67 c2),(false,!bP 111 79 c1),(true,bP 100 68 c0),(false,nb [c0] [45])]) (ob:=dH z i4 j4 r6 (.dat (.str [c0])) r7∧dH z i4 j4 r5 (.dat (.str [c1])) r6∧dH z i4 j4 r4 (.dat (.str [c2])) r5∧dH z i4 j4 r4 (.dat .non) r4∧bR z i3 j3 r3 (.dat .non) i4 j4 r4∧bR z i2 j2 r2 (.dat (.str [c2])) i3 j3 r3∧bR z i1 j1 r1 (.dat (.str [c1])) i2 j2 r2∧bR z i j r (.dat (.str [c0])) i1 j1 r1∧True) (aA (congrArg (!·) t3) (aA (congrArg (!·) t2) (aA t1 (aA t0 aH)))) ⟨h7,h6,h5,bV,h4,h3,h2,h1,trivial⟩ (by kernel_rfl)) a7.none
         |cons c3 l4=>
          obtain⟨i4,j4,r4,h4,a4⟩:=aO (z:=z) (i:=i3) (j:=j3) a3
          refine dN (fun t4=>?_) (fun t4=>?_)
          ·cases l4 with
           |nil=>
            obtain⟨i5,j5,r5,h5,a5⟩:=aN (z:=z) (i:=i4) (j:=j4) a4
            obtain⟨r6,h6,a6⟩:=aK (z:=z) (i:=i5) (j:=j5) (a5 [c3,c2,c1,c0]) a3.len
            obtain⟨r7,h7,a7⟩:=aK (z:=z) (i:=i5) (j:=j5) a6 a2.len
            obtain⟨r8,h8,a8⟩:=aK (z:=z) (i:=i5) (j:=j5) a7 a1.len
            obtain⟨r9,h9,a9⟩:=aK (z:=z) (i:=i5) (j:=j5) a8 a.len
            exact .mk i5 j5 r9 [] (.inl rfl) (z.use (hs:=[aG i1 j1 r1 (.dat (.str [c0])),.tst 691011031 false,.tst 697013040 true,aG i2 j2 r2 (.dat (.str [c1])),.tst 701019048 false,aG i3 j3 r3 (.dat (.str [c2])),.tst 701019048 false,aG i4 j4 r4 (.dat (.str [c3])),.tst 701019048 false,aG i5 j5 r5 (.dat .non),bN i5 j5 r5,bN i5 j5 r6,bN i5 j5 r7,bN i5 j5 r8,bN i5 j5 r9]) (o:=.fz [9] []) (g:=cg [(false,!bP 116 84 c3),(false,!bP 99 67 c2),(false,!bP 111 79 c1),(true,bP 100 68 c0),(false,nb [c0] [45])]) (ob:=dH z i5 j5 r8 (.dat (.str [c0])) r9∧dH z i5 j5 r7 (.dat (.str [c1])) r8∧dH z i5 j5 r6 (.dat (.str [c2])) r7∧dH z i5 j5 r5 (.dat (.str [c3])) r6∧dH z i5 j5 r5 (.dat .non) r5∧bR z i4 j4 r4 (.dat .non) i5 j5 r5∧bR z i3 j3 r3 (.dat (.str [c3])) i4 j4 r4∧bR z i2 j2 r2 (.dat (.str [c2])) i3 j3 r3∧bR z i1 j1 r1 (.dat (.str [c1])) i2 j2 r2∧bR z i j r (.dat (.str [c0])) i1 j1 r1∧True) (aA (congrArg (!·) t4) (aA (congrArg (!·) t3) (aA (congrArg (!·) t2) (aA t1 (aA t0 aH))))) ⟨h9,h8,h7,h6,bV,h5,h4,h3,h2,h1,trivial⟩ (by kernel_rfl)) a9.none
           |cons c4 l5=>
            obtain⟨i5,j5,r5,h5,a5⟩:=aO (z:=z) (i:=i4) (j:=j4) a4
            refine dN (fun t5=>?_) (fun t5=>?_)
            ·cases l5 with
             |nil=>
              obtain⟨i6,j6,r6,h6,a6⟩:=aN (z:=z) (i:=i5) (j:=j5) a5
              obtain⟨r7,h7,a7⟩:=aK (z:=z) (i:=i6) (j:=j6) (a6 [c4,c3,c2,c1,c0]) a4.len
              obtain⟨r8,h8,a8⟩:=aK (z:=z) (i:=i6) (j:=j6) a7 a3.len
              obtain⟨r9,h9,a9⟩:=aK (z:=z) (i:=i6) (j:=j6) a8 a2.len
              obtain⟨r10,h10,a10⟩:=aK (z:=z) (i:=i6) (j:=j6) a9 a1.len
              obtain⟨r11,h11,a11⟩:=aK (z:=z) (i:=i6) (j:=j6) a10 a.len
              exact .mk i6 j6 r11 [] (.inl rfl) (z.use (hs:=[aG i1 j1 r1 (.dat (.str [c0])),.tst 691011031 false,.tst 697013040 true,aG i2 j2 r2 (.dat (.str [c1])),.tst 701019048 false,aG i3 j3 r3 (.dat (.str [c2])),.tst 701019048 false,aG i4 j4 r4 (.dat (.str [c3])),.tst 701019048 false,aG i5 j5 r5 (.dat (.str [c4])),.tst 701019048 false,aG i6 j6 r6 (.dat .non),bN i6 j6 r6,bN i6 j6 r7,bN i6 j6 r8,bN i6 j6 r9,bN i6 j6 r10,bN i6 j6 r11]) (o:=.fz [9] []) (g:=cg [(false,!bP 121 89 c4),(false,!bP 116 84 c3),(false,!bP 99 67 c2),(false,!bP 111 79 c1),(true,bP 100 68 c0),(false,nb [c0] [45])]) (ob:=dH z i6 j6 r10 (.dat (.str [c0])) r11∧dH z i6 j6 r9 (.dat (.str [c1])) r10∧dH z i6 j6 r8 (.dat (.str [c2])) r9∧dH z i6 j6 r7 (.dat (.str [c3])) r8∧dH z i6 j6 r6 (.dat (.str [c4])) r7∧dH z i6 j6 r6 (.dat .non) r6∧bR z i5 j5 r5 (.dat .non) i6 j6 r6∧bR z i4 j4 r4 (.dat (.str [c4])) i5 j5 r5∧bR z i3 j3 r3 (.dat (.str [c3])) i4 j4 r4∧bR z i2 j2 r2 (.dat (.str [c2])) i3 j3 r3∧bR z i1 j1 r1 (.dat (.str [c1])) i2 j2 r2∧bR z i j r (.dat (.str [c0])) i1 j1 r1∧True) (aA (congrArg (!·) t5) (aA (congrArg (!·) t4) (aA (congrArg (!·) t3) (aA (congrArg (!·) t2) (aA t1 (aA t0 aH)))))) ⟨h11,h10,h9,h8,h7,bV,h6,h5,h4,h3,h2,h1,trivial⟩ (by kernel_rfl)) a11.none
             |cons c5 l6=>
              obtain⟨i6,j6,r6,h6,a6⟩:=aO (z:=z) (i:=i5) (j:=j5) a5
              refine dN (fun t6=>?_) (fun t6=>?_)
              ·cases l6 with
               |nil=>
                obtain⟨i7,j7,r7,h7,a7⟩:=aN (z:=z) (i:=i6) (j:=j6) a6
                obtain⟨r8,h8,a8⟩:=aK (z:=z) (i:=i7) (j:=j7) (a7 [c5,c4,c3,c2,c1,c0]) a5.len
                obtain⟨r9,h9,a9⟩:=aK (z:=z) (i:=i7) (j:=j7) a8 a4.len
                obtain⟨r10,h10,a10⟩:=aK (z:=z) (i:=i7) (j:=j7) a9 a3.len
                obtain⟨r11,h11,a11⟩:=aK (z:=z) (i:=i7) (j:=j7) a10 a2.len
                obtain⟨r12,h12,a12⟩:=aK (z:=z) (i:=i7) (j:=j7) a11 a1.len
                obtain⟨r13,h13,a13⟩:=aK (z:=z) (i:=i7) (j:=j7) a12 a.len
                exact .mk i7 j7 r13 [] (.inl rfl) (z.use (hs:=[aG i1 j1 r1 (.dat (.str [c0])),.tst 691011031 false,.tst 697013040 true,aG i2 j2 r2 (.dat (.str [c1])),.tst 701019048 false,aG i3 j3 r3 (.dat (.str [c2])),.tst 701019048 false,aG i4 j4 r4 (.dat (.str [c3])),.tst 701019048 false,aG i5 j5 r5 (.dat (.str [c4])),.tst 701019048 false,aG i6 j6 r6 (.dat (.str [c5])),.tst 701019048 false,aG i7 j7 r7 (.dat .non),bN i7 j7 r7,bN i7 j7 r8,bN i7 j7 r9,bN i7 j7 r10,bN i7 j7 r11,bN i7 j7 r12,bN i7 j7 r13]) (o:=.fz [9] []) (g:=cg [(false,!bP 112 80 c5),(false,!bP 121 89 c4),(false,!bP 116 84 c3),(false,!bP 99 67 c2),(false,!bP 111 79 c1),(true,bP 100 68 c0),(false,nb [c0] [45])]) (ob:=dH z i7 j7 r12 (.dat (.str [c0])) r13∧dH z i7 j7 r11 (.dat (.str [c1])) r12∧dH z i7 j7 r10 (.dat (.str [c2])) r11∧dH z i7 j7 r9 (.dat (.str [c3])) r10∧dH z i7 j7 r8 (.dat (.str [c4])) r9∧dH z i7 j7 r7 (.dat (.str [c5])) r8∧dH z i7 j7 r7 (.dat .non) r7∧bR z i6 j6 r6 (.dat .non) i7 j7 r7∧bR z i5 j5 r5 (.dat (.str [c5])) i6 j6 r6∧bR z i4 j4 r4 (.dat (.str [c4])) i5 j5 r5∧bR z i3 j3 r3 (.dat (.str [c3])) i4 j4 r4∧bR z i2 j2 r2 (.dat (.str [c2])) i3 j3 r3∧bR z i1 j1 r1 (.dat (.str [c1])) i2 j2 r2∧bR z i j r (.dat (.str [c0])) i1 j1 r1∧True) (aA (congrArg (!·) t6) (aA (congrArg (!·) t5) (aA (congrArg (!·) t4) (aA (congrArg (!·) t3) (aA (congrArg (!·) t2) (aA t1 (aA t0 aH))))))) ⟨h13,h12,h11,h10,h9,h8,bV,h7,h6,h5,h4,h3,h2,h1,trivial⟩ (by kernel_rfl)) a13.none
               |cons c6 l7=>
                obtain⟨i7,j7,r7,h7,a7⟩:=aO (z:=z) (i:=i6) (j:=j6) a6
                refine dN (fun t7=>?_) (fun t7=>?_)
                ·exact .mk i7 j7 r7 [] (.inl rfl) (z.use (hs:=[aG i1 j1 r1 (.dat (.str [c0])),.tst 691011031 false,.tst 697013040 true,aG i2 j2 r2 (.dat (.str [c1])),.tst 701019048 false,aG i3 j3 r3 (.dat (.str [c2])),.tst 701019048 false,aG i4 j4 r4 (.dat (.str [c3])),.tst 701019048 false,aG i5 j5 r5 (.dat (.str [c4])),.tst 701019048 false,aG i6 j6 r6 (.dat (.str [c5])),.tst 701019048 false,aG i7 j7 r7 (.dat (.str [c6])),.tst 701019048 false]) (o:=.fz [] [9]) (g:=cg [(false,!bP 101 69 c6),(false,!bP 112 80 c5),(false,!bP 121 89 c4),(false,!bP 116 84 c3),(false,!bP 99 67 c2),(false,!bP 111 79 c1),(true,bP 100 68 c0),(false,nb [c0] [45])]) (aA (congrArg (!·) t7) (aA (congrArg (!·) t6) (aA (congrArg (!·) t5) (aA (congrArg (!·) t4) (aA (congrArg (!·) t3) (aA (congrArg (!·) t2) (aA t1 (aA t0 aH)))))))) (an h7 (an h6 (an h5 (an h4 (an h3 (an h2 (an h1 trivial))))))) (by kernel_rfl)) a7.none
                ·obtain⟨r8,h8,a8⟩:=aK (z:=z) (i:=i7) (j:=j7) a7 a6.len
                 obtain⟨r9,h9,a9⟩:=aK (z:=z) (i:=i7) (j:=j7) a8 a5.len
                 obtain⟨r10,h10,a10⟩:=aK (z:=z) (i:=i7) (j:=j7) a9 a4.len
                 obtain⟨r11,h11,a11⟩:=aK (z:=z) (i:=i7) (j:=j7) a10 a3.len
                 obtain⟨r12,h12,a12⟩:=aK (z:=z) (i:=i7) (j:=j7) a11 a2.len
                 obtain⟨r13,h13,a13⟩:=aK (z:=z) (i:=i7) (j:=j7) a12 a1.len
                 obtain⟨r14,h14,a14⟩:=aK (z:=z) (i:=i7) (j:=j7) a13 a.len
                 exact .mk i7 j7 r14 [] (.inl rfl) (z.use (hs:=[aG i1 j1 r1 (.dat (.str [c0])),.tst 691011031 false,.tst 697013040 true,aG i2 j2 r2 (.dat (.str [c1])),.tst 701019048 false,aG i3 j3 r3 (.dat (.str [c2])),.tst 701019048 false,aG i4 j4 r4 (.dat (.str [c3])),.tst 701019048 false,aG i5 j5 r5 (.dat (.str [c4])),.tst 701019048 false,aG i6 j6 r6 (.dat (.str [c5])),.tst 701019048 false,aG i7 j7 r7 (.dat (.str [c6])),.tst 701019048 true,bN i7 j7 r8,bN i7 j7 r9,bN i7 j7 r10,bN i7 j7 r11,bN i7 j7 r12,bN i7 j7 r13,bN i7 j7 r14]) (o:=.fz [9] []) (g:=cg [(true,!bP 101 69 c6),(false,!bP 112 80 c5),(false,!bP 121 89 c4),(false,!bP 116 84 c3),(false,!bP 99 67 c2),(false,!bP 111 79 c1),(true,bP 100 68 c0),(false,nb [c0] [45])]) (aA (congrArg (!·) t7) (aA (congrArg (!·) t6) (aA (congrArg (!·) t5) (aA (congrArg (!·) t4) (aA (congrArg (!·) t3) (aA (congrArg (!·) t2) (aA t1 (aA t0 aH)))))))) (an h14 (an h13 (an h12 (an h11 (an h10 (an h9 (an h8 (an h7 (an h6 (an h5 (an h4 (an h3 (an h2 (an h1 trivial)))))))))))))) (by kernel_rfl)) a14.none
              ·obtain⟨r7,h7,a7⟩:=aK (z:=z) (i:=i6) (j:=j6) a6 a5.len
               obtain⟨r8,h8,a8⟩:=aK (z:=z) (i:=i6) (j:=j6) a7 a4.len
               obtain⟨r9,h9,a9⟩:=aK (z:=z) (i:=i6) (j:=j6) a8 a3.len
               obtain⟨r10,h10,a10⟩:=aK (z:=z) (i:=i6) (j:=j6) a9 a2.len
               obtain⟨r11,h11,a11⟩:=aK (z:=z) (i:=i6) (j:=j6) a10 a1.len
               obtain⟨r12,h12,a12⟩:=aK (z:=z) (i:=i6) (j:=j6) a11 a.len
               exact .mk i6 j6 r12 [] (.inl rfl) (z.use (hs:=[aG i1 j1 r1 (.dat (.str [c0])),.tst 691011031 false,.tst 697013040 true,aG i2 j2 r2 (.dat (.str [c1])),.tst 701019048 false,aG i3 j3 r3 (.dat (.str [c2])),.tst 701019048 false,aG i4 j4 r4 (.dat (.str [c3])),.tst 701019048 false,aG i5 j5 r5 (.dat (.str [c4])),.tst 701019048 false,aG i6 j6 r6 (.dat (.str [c5])),.tst 701019048 true,bN i6 j6 r7,bN i6 j6 r8,bN i6 j6 r9,bN i6 j6 r10,bN i6 j6 r11,bN i6 j6 r12]) (o:=.fz [9] []) (g:=cg [(true,!bP 112 80 c5),(false,!bP 121 89 c4),(false,!bP 116 84 c3),(false,!bP 99 67 c2),(false,!bP 111 79 c1),(true,bP 100 68 c0),(false,nb [c0] [45])]) (aA (congrArg (!·) t6) (aA (congrArg (!·) t5) (aA (congrArg (!·) t4) (aA (congrArg (!·) t3) (aA (congrArg (!·) t2) (aA t1 (aA t0 aH))))))) (an h12 (an h11 (an h10 (an h9 (an h8 (an h7 (an h6 (an h5 (an h4 (an h3 (an h2 (an h1 trivial)))))))))))) (by kernel_rfl)) a12.none
            ·obtain⟨r6,h6,a6⟩:=aK (z:=z) (i:=i5) (j:=j5) a5 a4.len
             obtain⟨r7,h7,a7⟩:=aK (z:=z) (i:=i5) (j:=j5) a6 a3.len
             obtain⟨r8,h8,a8⟩:=aK (z:=z) (i:=i5) (j:=j5) a7 a2.len
             obtain⟨r9,h9,a9⟩:=aK (z:=z) (i:=i5) (j:=j5) a8 a1.len
             obtain⟨r10,h10,a10⟩:=aK (z:=z) (i:=i5) (j:=j5) a9 a.len
             exact .mk i5 j5 r10 [] (.inl rfl) (z.use (hs:=[aG i1 j1 r1 (.dat (.str [c0])),.tst 691011031 false,.tst 697013040 true,aG i2 j2 r2 (.dat (.str [c1])),.tst 701019048 false,aG i3 j3 r3 (.dat (.str [c2])),.tst 701019048 false,aG i4 j4 r4 (.dat (.str [c3])),.tst 701019048 false,aG i5 j5 r5 (.dat (.str [c4])),.tst 701019048 true,bN i5 j5 r6,bN i5 j5 r7,bN i5 j5 r8,bN i5 j5 r9,bN i5 j5 r10]) (o:=.fz [9] []) (g:=cg [(true,!bP 121 89 c4),(false,!bP 116 84 c3),(false,!bP 99 67 c2),(false,!bP 111 79 c1),(true,bP 100 68 c0),(false,nb [c0] [45])]) (aA (congrArg (!·) t5) (aA (congrArg (!·) t4) (aA (congrArg (!·) t3) (aA (congrArg (!·) t2) (aA t1 (aA t0 aH)))))) (an h10 (an h9 (an h8 (an h7 (an h6 (an h5 (an h4 (an h3 (an h2 (an h1 trivial)))))))))) (by kernel_rfl)) a10.none
          ·obtain⟨r5,h5,a5⟩:=aK (z:=z) (i:=i4) (j:=j4) a4 a3.len
           obtain⟨r6,h6,a6⟩:=aK (z:=z) (i:=i4) (j:=j4) a5 a2.len
           obtain⟨r7,h7,a7⟩:=aK (z:=z) (i:=i4) (j:=j4) a6 a1.len
           obtain⟨r8,h8,a8⟩:=aK (z:=z) (i:=i4) (j:=j4) a7 a.len
           exact .mk i4 j4 r8 [] (.inl rfl) (z.use (hs:=[aG i1 j1 r1 (.dat (.str [c0])),.tst 691011031 false,.tst 697013040 true,aG i2 j2 r2 (.dat (.str [c1])),.tst 701019048 false,aG i3 j3 r3 (.dat (.str [c2])),.tst 701019048 false,aG i4 j4 r4 (.dat (.str [c3])),.tst 701019048 true,bN i4 j4 r5,bN i4 j4 r6,bN i4 j4 r7,bN i4 j4 r8]) (o:=.fz [9] []) (g:=cg [(true,!bP 116 84 c3),(false,!bP 99 67 c2),(false,!bP 111 79 c1),(true,bP 100 68 c0),(false,nb [c0] [45])]) (aA (congrArg (!·) t4) (aA (congrArg (!·) t3) (aA (congrArg (!·) t2) (aA t1 (aA t0 aH))))) (an h8 (an h7 (an h6 (an h5 (an h4 (an h3 (an h2 (an h1 trivial)))))))) (by kernel_rfl)) a8.none
        ·obtain⟨r4,h4,a4⟩:=aK (z:=z) (i:=i3) (j:=j3) a3 a2.len
         obtain⟨r5,h5,a5⟩:=aK (z:=z) (i:=i3) (j:=j3) a4 a1.len
         obtain⟨r6,h6,a6⟩:=aK (z:=z) (i:=i3) (j:=j3) a5 a.len
         exact .mk i3 j3 r6 [] (.inl rfl) (z.use (hs:=[aG i1 j1 r1 (.dat (.str [c0])),.tst 691011031 false,.tst 697013040 true,aG i2 j2 r2 (.dat (.str [c1])),.tst 701019048 false,aG i3 j3 r3 (.dat (.str [c2])),.tst 701019048 true,bN i3 j3 r4,bN i3 j3 r5,bN i3 j3 r6]) (o:=.fz [9] []) (g:=cg [(true,!bP 99 67 c2),(false,!bP 111 79 c1),(true,bP 100 68 c0),(false,nb [c0] [45])]) (aA (congrArg (!·) t3) (aA (congrArg (!·) t2) (aA t1 (aA t0 aH)))) (an h6 (an h5 (an h4 (an h3 (an h2 (an h1 trivial)))))) (by kernel_rfl)) a6.none
      ·obtain⟨r3,h3,a3⟩:=aK (z:=z) (i:=i2) (j:=j2) a2 a1.len
       obtain⟨r4,h4,a4⟩:=aK (z:=z) (i:=i2) (j:=j2) a3 a.len
       exact .mk i2 j2 r4 [] (.inl rfl) (z.use (hs:=[aG i1 j1 r1 (.dat (.str [c0])),.tst 691011031 false,.tst 697013040 true,aG i2 j2 r2 (.dat (.str [c1])),.tst 701019048 true,bN i2 j2 r3,bN i2 j2 r4]) (o:=.fz [9] []) (g:=cg [(true,!bP 111 79 c1),(true,bP 100 68 c0),(false,nb [c0] [45])]) (aA (congrArg (!·) t2) (aA t1 (aA t0 aH))) (an h4 (an h3 (an h2 (an h1 trivial)))) (by kernel_rfl)) a4.none
    ·obtain⟨r2,h2,a2⟩:=aK (z:=z) (i:=i1) (j:=j1) a1 a.len
     exact .mk i1 j1 r2 [] (.inl rfl) (z.use (hs:=[aG i1 j1 r1 (.dat (.str [c0])),.tst 691011031 false,.tst 697013040 false,bN i1 j1 r2]) (o:=.fz [9] []) (g:=cg [(false,bP 100 68 c0),(false,nb [c0] [45])]) (aA t1 (aA t0 aH)) (an h2 (an h1 trivial)) (by kernel_rfl)) a2.none
 |_=>exact trivial
noncomputable def Dx (k:Bool)(n:Nm)(p:Option Nm)(q:Option Nm):Nm→Option Res
 | []=>some ⟨true,759,.doc n p q false,[.erv Ui (.dct [(cX,.non)])],[]⟩
 |c5::l6=>bif bP 99 67 c5 then some ⟨true,682,.doc n p q k,[],l6⟩else some ⟨true,759,.doc n p q false,[.erv Ui (.dct [(cX,.str [c5])])],c5::l6⟩
noncomputable def Dy (k:Bool)(n:Nm)(p:Option Nm)(q:Option Nm):Nm→Option Res
 | []=>some ⟨true,759,.doc n p q false,[.erv Ui (.dct [(cX,.non)])],[]⟩
 |c4::l5=>bif bP 105 73 c4 then Dx k n p q l5 else some ⟨true,759,.doc n p q false,[.erv Ui (.dct [(cX,.str [c4])])],c4::l5⟩
noncomputable def Dz (k:Bool)(n:Nm)(p:Option Nm)(q:Option Nm):Nm→Option Res
 | []=>some ⟨true,759,.doc n p q false,[.erv Ui (.dct [(cX,.non)])],[]⟩
 |c3::l4=>bif bP 108 76 c3 then Dy k n p q l4 else some ⟨true,759,.doc n p q false,[.erv Ui (.dct [(cX,.str [c3])])],c3::l4⟩
noncomputable def EA (k:Bool)(n:Nm)(p:Option Nm)(q:Option Nm):Nm→Option Res
 | []=>some ⟨true,759,.doc n p q false,[.erv Ui (.dct [(cX,.non)])],[]⟩
 |c2::l3=>bif bP 98 66 c2 then Dz k n p q l3 else some ⟨true,759,.doc n p q false,[.erv Ui (.dct [(cX,.str [c2])])],c2::l3⟩
noncomputable def EB (k:Bool)(n:Nm)(p:Option Nm)(q:Option Nm):Nm→Option Res
 | []=>some ⟨true,759,.doc n p q false,[.erv Ui (.dct [(cX,.non)])],[]⟩
 |c1::l2=>bif bP 117 85 c1 then EA k n p q l2 else some ⟨true,759,.doc n p q false,[.erv Ui (.dct [(cX,.str [c1])])],c1::l2⟩
noncomputable def EC (k:Bool)(n:Nm)(p:Option Nm)(q:Option Nm):Nm→Option Res
 | []=>some ⟨true,759,.doc n p q false,[.erv Ui (.dct [(cX,.non)])],[]⟩
 |c5::l6=>bif bP 109 77 c5 then some ⟨true,724,.doc n p q k,[],l6⟩else some ⟨true,759,.doc n p q false,[.erv Ui (.dct [(cX,.str [c5])])],c5::l6⟩
noncomputable def ED (k:Bool)(n:Nm)(p:Option Nm)(q:Option Nm):Nm→Option Res
 | []=>some ⟨true,759,.doc n p q false,[.erv Ui (.dct [(cX,.non)])],[]⟩
 |c4::l5=>bif bP 101 69 c4 then EC k n p q l5 else some ⟨true,759,.doc n p q false,[.erv Ui (.dct [(cX,.str [c4])])],c4::l5⟩
noncomputable def EE (k:Bool)(n:Nm)(p:Option Nm)(q:Option Nm):Nm→Option Res
 | []=>some ⟨true,759,.doc n p q false,[.erv Ui (.dct [(cX,.non)])],[]⟩
 |c3::l4=>bif bP 116 84 c3 then ED k n p q l4 else some ⟨true,759,.doc n p q false,[.erv Ui (.dct [(cX,.str [c3])])],c3::l4⟩
noncomputable def EF (k:Bool)(n:Nm)(p:Option Nm)(q:Option Nm):Nm→Option Res
 | []=>some ⟨true,759,.doc n p q false,[.erv Ui (.dct [(cX,.non)])],[]⟩
 |c2::l3=>bif bP 115 83 c2 then EE k n p q l3 else some ⟨true,759,.doc n p q false,[.erv Ui (.dct [(cX,.str [c2])])],c2::l3⟩
noncomputable def Ad (k:Bool)(n:Nm)(p:Option Nm)(q:Option Nm):Nm→Option Res
 | []=>some ⟨true,759,.doc n p q false,[.erv Ui (.dct [(cX,.non)])],[]⟩
 |c1::l2=>bif bP 121 89 c1 then EF k n p q l2 else some ⟨true,759,.doc n p q false,[.erv Ui (.dct [(cX,.str [c1])])],c1::l2⟩
noncomputable def EG:CT→Nm→Option Res
 |.doc n p q k,[]=>some ⟨true,304,.dead (Tok.doc n p q false).toD,[.err Um,.doc n p q false],[]⟩
 |.doc n p q k,c0::l1=>bif bX c0 then some ⟨true,675,.doc n p q k,[],l1⟩else bif nb [c0] [62]then some ⟨true,304,.dead (Tok.doc n p q k).toD,[.doc n p q k],l1⟩else bif bP 112 80 c0 then EB k n p q l1 else bif bP 115 83 c0 then Ad k n p q l1 else some ⟨true,759,.doc n p q false,[.erv Ui (.dct [(cX,.str [c0])])],c0::l1⟩
 |_,_=>none
theorem QY {z:c8}{i j:Int}{r:Stm}{ms l:Nm}{ct:CT}(sm:ct.Small)(a:At' r ms l):Exs z 675 ct i j r (EG ct l):=by
 cases ct with
 |doc n p q k=>
  have hn:n.length≤1000:=sm.1
  cases l with
  |nil=>
   obtain⟨i1,j1,r1,h1,a1⟩:=aN (z:=z) (i:=i) (j:=j) a
   exact .mk i1 j1 r1 [.gone] (.inr rfl) (z.use (hs:=[aG i1 j1 r1 (.dat .non),bN i1 j1 r1]) (o:=.fz [9,7] []) (g:=cg []) (ob:=dH z i1 j1 r1 (.dat .non) r1∧bR z i j r (.dat .non) i1 j1 r1∧True) aH ⟨bV,h1,trivial⟩ (by kernel_rfl)) (a1 [])
  |cons c0 l1=>
   obtain⟨i1,j1,r1,h1,a1⟩:=aO (z:=z) (i:=i) (j:=j) a
   refine dN (fun t0=>?_) (fun t0=>?_)
   ·exact .mk i1 j1 r1 [] (.inl rfl) (z.use (hs:=[aG i1 j1 r1 (.dat (.str [c0])),.tst 895011034 true]) (o:=.fz [] []) (g:=cg [(true,bX c0)]) (aA t0 aH) (an h1 trivial) (by kernel_rfl)) a1.none
   ·refine dN (fun t1=>?_) (fun t1=>?_)
    ·obtain rfl:=aT t1
     exact .mk i1 j1 r1 [.gone] (.inr rfl) (z.use (hs:=[aG i1 j1 r1 (.dat (.str [62]))]) (o:=.fz [7] []) (g:=cg []) aH (an h1 trivial) (by kernel_rfl)) a1.none
    ·refine dN (fun t2=>?_) (fun t2=>?_)
     ·cases l1 with
      |nil=>
       obtain⟨i2,j2,r2,h2,a2⟩:=aN (z:=z) (i:=i1) (j:=j1) a1
       exact .mk i2 j2 r2 [] (.inl rfl) (z.use (hs:=[aG i1 j1 r1 (.dat (.str [c0])),.tst 895011034 false,.tst 897013024 false,.tst 907015033 true,aG i2 j2 r2 (.dat .non),bN i2 j2 r2]) (o:=.fz [10,9] []) (g:=cg [(true,bP 112 80 c0),(false,nb [c0] [62]),(false,bX c0)]) (ob:=dH z i2 j2 r2 (.dat .non) r2∧bR z i1 j1 r1 (.dat .non) i2 j2 r2∧bR z i j r (.dat (.str [c0])) i1 j1 r1∧True) (aA t2 (aA t1 (aA t0 aH))) ⟨bV,h2,h1,trivial⟩ (by kernel_rfl)) (a2 [])
      |cons c1 l2=>
       obtain⟨i2,j2,r2,h2,a2⟩:=aO (z:=z) (i:=i1) (j:=j1) a1
       refine dN (fun t3=>?_) (fun t3=>?_)
       ·cases l2 with
        |nil=>
         obtain⟨i3,j3,r3,h3,a3⟩:=aN (z:=z) (i:=i2) (j:=j2) a2
         exact .mk i3 j3 r3 [] (.inl rfl) (z.use (hs:=[aG i1 j1 r1 (.dat (.str [c0])),.tst 895011034 false,.tst 897013024 false,.tst 907015033 true,aG i2 j2 r2 (.dat (.str [c1])),.tst 911023043 false,aG i3 j3 r3 (.dat .non),bN i3 j3 r3]) (o:=.fz [10,9] []) (g:=cg [(false,!bP 117 85 c1),(true,bP 112 80 c0),(false,nb [c0] [62]),(false,bX c0)]) (ob:=dH z i3 j3 r3 (.dat .non) r3∧bR z i2 j2 r2 (.dat .non) i3 j3 r3∧bR z i1 j1 r1 (.dat (.str [c1])) i2 j2 r2∧bR z i j r (.dat (.str [c0])) i1 j1 r1∧True) (aA (congrArg (!·) t3) (aA t2 (aA t1 (aA t0 aH)))) ⟨bV,h3,h2,h1,trivial⟩ (by kernel_rfl)) (a3 [])
        |cons c2 l3=>
         obtain⟨i3,j3,r3,h3,a3⟩:=aO (z:=z) (i:=i2) (j:=j2) a2
         refine dN (fun t4=>?_) (fun t4=>?_)
         ·cases l3 with
          |nil=>
           obtain⟨i4,j4,r4,h4,a4⟩:=aN (z:=z) (i:=i3) (j:=j3) a3
           exact .mk i4 j4 r4 [] (.inl rfl) (z.use (hs:=[aG i1 j1 r1 (.dat (.str [c0])),.tst 895011034 false,.tst 897013024 false,.tst 907015033 true,aG i2 j2 r2 (.dat (.str [c1])),.tst 911023043 false,aG i3 j3 r3 (.dat (.str [c2])),.tst 911023043 false,aG i4 j4 r4 (.dat .non),bN i4 j4 r4]) (o:=.fz [10,9] []) (g:=cg [(false,!bP 98 66 c2),(false,!bP 117 85 c1),(true,bP 112 80 c0),(false,nb [c0] [62]),(false,bX c0)]) (ob:=dH z i4 j4 r4 (.dat .non) r4∧bR z i3 j3 r3 (.dat .non) i4 j4 r4∧bR z i2 j2 r2 (.dat (.str [c2])) i3 j3 r3∧bR z i1 j1 r1 (.dat (.str [c1])) i2 j2 r2∧bR z i j r (.dat (.str [c0])) i1 j1 r1∧True) (aA (congrArg (!·) t4) (aA (congrArg (!·) t3) (aA t2 (aA t1 (aA t0 aH))))) ⟨bV,h4,h3,h2,h1,trivial⟩ (by kernel_rfl)) (a4 [])
          |cons c3 l4=>
           obtain⟨i4,j4,r4,h4,a4⟩:=aO (z:=z) (i:=i3) (j:=j3) a3
           refine dN (fun t5=>?_) (fun t5=>?_)
           ·cases l4 with
            |nil=>
             obtain⟨i5,j5,r5,h5,a5⟩:=aN (z:=z) (i:=i4) (j:=j4) a4
             exact .mk i5 j5 r5 [] (.inl rfl) (z.use (hs:=[aG i1 j1 r1 (.dat (.str [c0])),.tst 895011034 false,.tst 897013024 false,.tst 907015033 true,aG i2 j2 r2 (.dat (.str [c1])),.tst 911023043 false,aG i3 j3 r3 (.dat (.str [c2])),.tst 911023043 false,aG i4 j4 r4 (.dat (.str [c3])),.tst 911023043 false,aG i5 j5 r5 (.dat .non),bN i5 j5 r5]) (o:=.fz [10,9] []) (g:=cg [(false,!bP 108 76 c3),(false,!bP 98 66 c2),(false,!bP 117 85 c1),(true,bP 112 80 c0),(false,nb [c0] [62]),(false,bX c0)]) (ob:=dH z i5 j5 r5 (.dat .non) r5∧bR z i4 j4 r4 (.dat .non) i5 j5 r5∧bR z i3 j3 r3 (.dat (.str [c3])) i4 j4 r4∧bR z i2 j2 r2 (.dat (.str [c2])) i3 j3 r3∧bR z i1 j1 r1 (.dat (.str [c1])) i2 j2 r2∧bR z i j r (.dat (.str [c0])) i1 j1 r1∧True) (aA (congrArg (!·) t5) (aA (congrArg (!·) t4) (aA (congrArg (!·) t3) (aA t2 (aA t1 (aA t0 aH)))))) ⟨bV,h5,h4,h3,h2,h1,trivial⟩ (by kernel_rfl)) (a5 [])
            |cons c4 l5=>
             obtain⟨i5,j5,r5,h5,a5⟩:=aO (z:=z) (i:=i4) (j:=j4) a4
             refine dN (fun t6=>?_) (fun t6=>?_)
             ·cases l5 with
              |nil=>
               obtain⟨i6,j6,r6,h6,a6⟩:=aN (z:=z) (i:=i5) (j:=j5) a5
               exact .mk i6 j6 r6 [] (.inl rfl) (z.use (hs:=[aG i1 j1 r1 (.dat (.str [c0])),.tst 895011034 false,.tst 897013024 false,.tst 907015033 true,aG i2 j2 r2 (.dat (.str [c1])),.tst 911023043 false,aG i3 j3 r3 (.dat (.str [c2])),.tst 911023043 false,aG i4 j4 r4 (.dat (.str [c3])),.tst 911023043 false,aG i5 j5 r5 (.dat (.str [c4])),.tst 911023043 false,aG i6 j6 r6 (.dat .non),bN i6 j6 r6]) (o:=.fz [10,9] []) (g:=cg [(false,!bP 105 73 c4),(false,!bP 108 76 c3),(false,!bP 98 66 c2),(false,!bP 117 85 c1),(true,bP 112 80 c0),(false,nb [c0] [62]),(false,bX c0)]) (ob:=dH z i6 j6 r6 (.dat .non) r6∧bR z i5 j5 r5 (.dat .non) i6 j6 r6∧bR z i4 j4 r4 (.dat (.str [c4])) i5 j5 r5∧bR z i3 j3 r3 (.dat (.str [c3])) i4 j4 r4∧bR z i2 j2 r2 (.dat (.str [c2])) i3 j3 r3∧bR z i1 j1 r1 (.dat (.str [c1])) i2 j2 r2∧bR z i j r (.dat (.str [c0])) i1 j1 r1∧True) (aA (congrArg (!·) t6) (aA (congrArg (!·) t5) (aA (congrArg (!·) t4) (aA (congrArg (!·) t3) (aA t2 (aA t1 (aA t0 aH))))))) ⟨bV,h6,h5,h4,h3,h2,h1,trivial⟩ (by kernel_rfl)) (a6 [])
              |cons c5 l6=>
               obtain⟨i6,j6,r6,h6,a6⟩:=aO (z:=z) (i:=i5) (j:=j5) a5
               refine dN (fun t7=>?_) (fun t7=>?_)
               ·exact .mk i6 j6 r6 [] (.inl rfl) (z.use (hs:=[aG i1 j1 r1 (.dat (.str [c0])),.tst 895011034 false,.tst 897013024 false,.tst 907015033 true,aG i2 j2 r2 (.dat (.str [c1])),.tst 911023043 false,aG i3 j3 r3 (.dat (.str [c2])),.tst 911023043 false,aG i4 j4 r4 (.dat (.str [c3])),.tst 911023043 false,aG i5 j5 r5 (.dat (.str [c4])),.tst 911023043 false,aG i6 j6 r6 (.dat (.str [c5])),.tst 911023043 false]) (o:=.fz [] []) (g:=cg [(false,!bP 99 67 c5),(false,!bP 105 73 c4),(false,!bP 108 76 c3),(false,!bP 98 66 c2),(false,!bP 117 85 c1),(true,bP 112 80 c0),(false,nb [c0] [62]),(false,bX c0)]) (aA (congrArg (!·) t7) (aA (congrArg (!·) t6) (aA (congrArg (!·) t5) (aA (congrArg (!·) t4) (aA (congrArg (!·) t3) (aA t2 (aA t1 (aA t0 aH)))))))) (an h6 (an h5 (an h4 (an h3 (an h2 (an h1 trivial)))))) (by kernel_rfl)) a6.none
               ·obtain⟨r7,h7,a7⟩:=aK (z:=z) (i:=i6) (j:=j6) a6 a5.len
                exact .mk i6 j6 r7 [] (.inl rfl) (z.use (hs:=[aG i1 j1 r1 (.dat (.str [c0])),.tst 895011034 false,.tst 897013024 false,.tst 907015033 true,aG i2 j2 r2 (.dat (.str [c1])),.tst 911023043 false,aG i3 j3 r3 (.dat (.str [c2])),.tst 911023043 false,aG i4 j4 r4 (.dat (.str [c3])),.tst 911023043 false,aG i5 j5 r5 (.dat (.str [c4])),.tst 911023043 false,aG i6 j6 r6 (.dat (.str [c5])),.tst 911023043 true,bN i6 j6 r7]) (o:=.fz [10,9] []) (g:=cg [(true,!bP 99 67 c5),(false,!bP 105 73 c4),(false,!bP 108 76 c3),(false,!bP 98 66 c2),(false,!bP 117 85 c1),(true,bP 112 80 c0),(false,nb [c0] [62]),(false,bX c0)]) (aA (congrArg (!·) t7) (aA (congrArg (!·) t6) (aA (congrArg (!·) t5) (aA (congrArg (!·) t4) (aA (congrArg (!·) t3) (aA t2 (aA t1 (aA t0 aH)))))))) (an h7 (an h6 (an h5 (an h4 (an h3 (an h2 (an h1 trivial))))))) (by kernel_rfl)) a7.none
             ·obtain⟨r6,h6,a6⟩:=aK (z:=z) (i:=i5) (j:=j5) a5 a4.len
              exact .mk i5 j5 r6 [] (.inl rfl) (z.use (hs:=[aG i1 j1 r1 (.dat (.str [c0])),.tst 895011034 false,.tst 897013024 false,.tst 907015033 true,aG i2 j2 r2 (.dat (.str [c1])),.tst 911023043 false,aG i3 j3 r3 (.dat (.str [c2])),.tst 911023043 false,aG i4 j4 r4 (.dat (.str [c3])),.tst 911023043 false,aG i5 j5 r5 (.dat (.str [c4])),.tst 911023043 true,bN i5 j5 r6]) (o:=.fz [10,9] []) (g:=cg [(true,!bP 105 73 c4),(false,!bP 108 76 c3),(false,!bP 98 66 c2),(false,!bP 117 85 c1),(true,bP 112 80 c0),(false,nb [c0] [62]),(false,bX c0)]) (aA (congrArg (!·) t6) (aA (congrArg (!·) t5) (aA (congrArg (!·) t4) (aA (congrArg (!·) t3) (aA t2 (aA t1 (aA t0 aH))))))) (an h6 (an h5 (an h4 (an h3 (an h2 (an h1 trivial)))))) (by kernel_rfl)) a6.none
           ·obtain⟨r5,h5,a5⟩:=aK (z:=z) (i:=i4) (j:=j4) a4 a3.len
            exact .mk i4 j4 r5 [] (.inl rfl) (z.use (hs:=[aG i1 j1 r1 (.dat (.str [c0])),.tst 895011034 false,.tst 897013024 false,.tst 907015033 true,aG i2 j2 r2 (.dat (.str [c1])),.tst 911023043 false,aG i3 j3 r3 (.dat (.str [c2])),.tst 911023043 false,aG i4 j4 r4 (.dat (.str [c3])),.tst 911023043 true,bN i4 j4 r5]) (o:=.fz [10,9] []) (g:=cg [(true,!bP 108 76 c3),(false,!bP 98 66 c2),(false,!bP 117 85 c1),(true,bP 112 80 c0),(false,nb [c0] [62]),(false,bX c0)]) (aA (congrArg (!·) t5) (aA (congrArg (!·) t4) (aA (congrArg (!·) t3) (aA t2 (aA t1 (aA t0 aH)))))) (an h5 (an h4 (an h3 (an h2 (an h1 trivial))))) (by kernel_rfl)) a5.none
         ·obtain⟨r4,h4,a4⟩:=aK (z:=z) (i:=i3) (j:=j3) a3 a2.len
          exact .mk i3 j3 r4 [] (.inl rfl) (z.use (hs:=[aG i1 j1 r1 (.dat (.str [c0])),.tst 895011034 false,.tst 897013024 false,.tst 907015033 true,aG i2 j2 r2 (.dat (.str [c1])),.tst 911023043 false,aG i3 j3 r3 (.dat (.str [c2])),.tst 911023043 true,bN i3 j3 r4]) (o:=.fz [10,9] []) (g:=cg [(true,!bP 98 66 c2),(false,!bP 117 85 c1),(true,bP 112 80 c0),(false,nb [c0] [62]),(false,bX c0)]) (aA (congrArg (!·) t4) (aA (congrArg (!·) t3) (aA t2 (aA t1 (aA t0 aH))))) (an h4 (an h3 (an h2 (an h1 trivial)))) (by kernel_rfl)) a4.none
       ·obtain⟨r3,h3,a3⟩:=aK (z:=z) (i:=i2) (j:=j2) a2 a1.len
        exact .mk i2 j2 r3 [] (.inl rfl) (z.use (hs:=[aG i1 j1 r1 (.dat (.str [c0])),.tst 895011034 false,.tst 897013024 false,.tst 907015033 true,aG i2 j2 r2 (.dat (.str [c1])),.tst 911023043 true,bN i2 j2 r3]) (o:=.fz [10,9] []) (g:=cg [(true,!bP 117 85 c1),(true,bP 112 80 c0),(false,nb [c0] [62]),(false,bX c0)]) (aA (congrArg (!·) t3) (aA t2 (aA t1 (aA t0 aH)))) (an h3 (an h2 (an h1 trivial))) (by kernel_rfl)) a3.none
     ·refine dN (fun t3=>?_) (fun t3=>?_)
      ·cases l1 with
       |nil=>
        obtain⟨i2,j2,r2,h2,a2⟩:=aN (z:=z) (i:=i1) (j:=j1) a1
        exact .mk i2 j2 r2 [] (.inl rfl) (z.use (hs:=[aG i1 j1 r1 (.dat (.str [c0])),.tst 895011034 false,.tst 897013024 false,.tst 907015033 false,.tst 917017035 true,aG i2 j2 r2 (.dat .non),bN i2 j2 r2]) (o:=.fz [10,9] []) (g:=cg [(true,bP 115 83 c0),(false,bP 112 80 c0),(false,nb [c0] [62]),(false,bX c0)]) (ob:=dH z i2 j2 r2 (.dat .non) r2∧bR z i1 j1 r1 (.dat .non) i2 j2 r2∧bR z i j r (.dat (.str [c0])) i1 j1 r1∧True) (aA t3 (aA t2 (aA t1 (aA t0 aH)))) ⟨bV,h2,h1,trivial⟩ (by kernel_rfl)) (a2 [])
       |cons c1 l2=>
        obtain⟨i2,j2,r2,h2,a2⟩:=aO (z:=z) (i:=i1) (j:=j1) a1
        refine dN (fun t4=>?_) (fun t4=>?_)
        ·cases l2 with
         |nil=>
          obtain⟨i3,j3,r3,h3,a3⟩:=aN (z:=z) (i:=i2) (j:=j2) a2
          exact .mk i3 j3 r3 [] (.inl rfl) (z.use (hs:=[aG i1 j1 r1 (.dat (.str [c0])),.tst 895011034 false,.tst 897013024 false,.tst 907015033 false,.tst 917017035 true,aG i2 j2 r2 (.dat (.str [c1])),.tst 921023043 false,aG i3 j3 r3 (.dat .non),bN i3 j3 r3]) (o:=.fz [10,9] []) (g:=cg [(false,!bP 121 89 c1),(true,bP 115 83 c0),(false,bP 112 80 c0),(false,nb [c0] [62]),(false,bX c0)]) (ob:=dH z i3 j3 r3 (.dat .non) r3∧bR z i2 j2 r2 (.dat .non) i3 j3 r3∧bR z i1 j1 r1 (.dat (.str [c1])) i2 j2 r2∧bR z i j r (.dat (.str [c0])) i1 j1 r1∧True) (aA (congrArg (!·) t4) (aA t3 (aA t2 (aA t1 (aA t0 aH))))) ⟨bV,h3,h2,h1,trivial⟩ (by kernel_rfl)) (a3 [])
         |cons c2 l3=>
          obtain⟨i3,j3,r3,h3,a3⟩:=aO (z:=z) (i:=i2) (j:=j2) a2
          refine dN (fun t5=>?_) (fun t5=>?_)
          ·cases l3 with
           |nil=>
            obtain⟨i4,j4,r4,h4,a4⟩:=aN (z:=z) (i:=i3) (j:=j3) a3
            exact .mk i4 j4 r4 [] (.inl rfl) (z.use (hs:=[aG i1 j1 r1 (.dat (.str [c0])),.tst 895011034 false,.tst 897013024 false,.tst 907015033 false,.tst 917017035 true,aG i2 j2 r2 (.dat (.str [c1])),.tst 921023043 false,aG i3 j3 r3 (.dat (.str [c2])),.tst 921023043 false,aG i4 j4 r4 (.dat .non),bN i4 j4 r4]) (o:=.fz [10,9] []) (g:=cg [(false,!bP 115 83 c2),(false,!bP 121 89 c1),(true,bP 115 83 c0),(false,bP 112 80 c0),(false,nb [c0] [62]),(false,bX c0)]) (ob:=dH z i4 j4 r4 (.dat .non) r4∧bR z i3 j3 r3 (.dat .non) i4 j4 r4∧bR z i2 j2 r2 (.dat (.str [c2])) i3 j3 r3∧bR z i1 j1 r1 (.dat (.str [c1])) i2 j2 r2∧bR z i j r (.dat (.str [c0])) i1 j1 r1∧True) (aA (congrArg (!·) t5) (aA (congrArg (!·) t4) (aA t3 (aA t2 (aA t1 (aA t0 aH)))))) ⟨bV,h4,h3,h2,h1,trivial⟩ (by kernel_rfl)) (a4 [])
           |cons c3 l4=>
            obtain⟨i4,j4,r4,h4,a4⟩:=aO (z:=z) (i:=i3) (j:=j3) a3
            refine dN (fun t6=>?_) (fun t6=>?_)
            ·cases l4 with
             |nil=>
              obtain⟨i5,j5,r5,h5,a5⟩:=aN (z:=z) (i:=i4) (j:=j4) a4
              exact .mk i5 j5 r5 [] (.inl rfl) (z.use (hs:=[aG i1 j1 r1 (.dat (.str [c0])),.tst 895011034 false,.tst 897013024 false,.tst 907015033 false,.tst 917017035 true,aG i2 j2 r2 (.dat (.str [c1])),.tst 921023043 false,aG i3 j3 r3 (.dat (.str [c2])),.tst 921023043 false,aG i4 j4 r4 (.dat (.str [c3])),.tst 921023043 false,aG i5 j5 r5 (.dat .non),bN i5 j5 r5]) (o:=.fz [10,9] []) (g:=cg [(false,!bP 116 84 c3),(false,!bP 115 83 c2),(false,!bP 121 89 c1),(true,bP 115 83 c0),(false,bP 112 80 c0),(false,nb [c0] [62]),(false,bX c0)]) (ob:=dH z i5 j5 r5 (.dat .non) r5∧bR z i4 j4 r4 (.dat .non) i5 j5 r5∧bR z i3 j3 r3 (.dat (.str [c3])) i4 j4 r4∧bR z i2 j2 r2 (.dat (.str [c2])) i3 j3 r3∧bR z i1 j1 r1 (.dat (.str [c1])) i2 j2 r2∧bR z i j r (.dat (.str [c0])) i1 j1 r1∧True) (aA (congrArg (!·) t6) (aA (congrArg (!·) t5) (aA (congrArg (!·) t4) (aA t3 (aA t2 (aA t1 (aA t0 aH))))))) ⟨bV,h5,h4,h3,h2,h1,trivial⟩ (by kernel_rfl)) (a5 [])
             |cons c4 l5=>
              obtain⟨i5,j5,r5,h5,a5⟩:=aO (z:=z) (i:=i4) (j:=j4) a4
              refine dN (fun t7=>?_) (fun t7=>?_)
              ·cases l5 with
               |nil=>
                obtain⟨i6,j6,r6,h6,a6⟩:=aN (z:=z) (i:=i5) (j:=j5) a5
                exact .mk i6 j6 r6 [] (.inl rfl) (z.use (hs:=[aG i1 j1 r1 (.dat (.str [c0])),.tst 895011034 false,.tst 897013024 false,.tst 907015033 false,.tst 917017035 true,aG i2 j2 r2 (.dat (.str [c1])),.tst 921023043 false,aG i3 j3 r3 (.dat (.str [c2])),.tst 921023043 false,aG i4 j4 r4 (.dat (.str [c3])),.tst 921023043 false,aG i5 j5 r5 (.dat (.str [c4])),.tst 921023043 false,aG i6 j6 r6 (.dat .non),bN i6 j6 r6]) (o:=.fz [10,9] []) (g:=cg [(false,!bP 101 69 c4),(false,!bP 116 84 c3),(false,!bP 115 83 c2),(false,!bP 121 89 c1),(true,bP 115 83 c0),(false,bP 112 80 c0),(false,nb [c0] [62]),(false,bX c0)]) (ob:=dH z i6 j6 r6 (.dat .non) r6∧bR z i5 j5 r5 (.dat .non) i6 j6 r6∧bR z i4 j4 r4 (.dat (.str [c4])) i5 j5 r5∧bR z i3 j3 r3 (.dat (.str [c3])) i4 j4 r4∧bR z i2 j2 r2 (.dat (.str [c2])) i3 j3 r3∧bR z i1 j1 r1 (.dat (.str [c1])) i2 j2 r2∧bR z i j r (.dat (.str [c0])) i1 j1 r1∧True) (aA (congrArg (!·) t7) (aA (congrArg (!·) t6) (aA (congrArg (!·) t5) (aA (congrArg (!·) t4) (aA t3 (aA t2 (aA t1 (aA t0 aH)))))))) ⟨bV,h6,h5,h4,h3,h2,h1,trivial⟩ (by kernel_rfl)) (a6 [])
               |cons c5 l6=>
                obtain⟨i6,j6,r6,h6,a6⟩:=aO (z:=z) (i:=i5) (j:=j5) a5
                refine dN (fun t8=>?_) (fun t8=>?_)
                ·exact .mk i6 j6 r6 [] (.inl rfl) (z.use (hs:=[aG i1 j1 r1 (.dat (.str [c0])),.tst 895011034 false,.tst 897013024 false,.tst 907015033 false,.tst 917017035 true,aG i2 j2 r2 (.dat (.str [c1])),.tst 921023043 false,aG i3 j3 r3 (.dat (.str [c2])),.tst 921023043 false,aG i4 j4 r4 (.dat (.str [c3])),.tst 921023043 false,aG i5 j5 r5 (.dat (.str [c4])),.tst 921023043 false,aG i6 j6 r6 (.dat (.str [c5])),.tst 921023043 false]) (o:=.fz [] []) (g:=cg [(false,!bP 109 77 c5),(false,!bP 101 69 c4),(false,!bP 116 84 c3),(false,!bP 115 83 c2),(false,!bP 121 89 c1),(true,bP 115 83 c0),(false,bP 112 80 c0),(false,nb [c0] [62]),(false,bX c0)]) (aA (congrArg (!·) t8) (aA (congrArg (!·) t7) (aA (congrArg (!·) t6) (aA (congrArg (!·) t5) (aA (congrArg (!·) t4) (aA t3 (aA t2 (aA t1 (aA t0 aH))))))))) (an h6 (an h5 (an h4 (an h3 (an h2 (an h1 trivial)))))) (by kernel_rfl)) a6.none
                ·obtain⟨r7,h7,a7⟩:=aK (z:=z) (i:=i6) (j:=j6) a6 a5.len
                 exact .mk i6 j6 r7 [] (.inl rfl) (z.use (hs:=[aG i1 j1 r1 (.dat (.str [c0])),.tst 895011034 false,.tst 897013024 false,.tst 907015033 false,.tst 917017035 true,aG i2 j2 r2 (.dat (.str [c1])),.tst 921023043 false,aG i3 j3 r3 (.dat (.str [c2])),.tst 921023043 false,aG i4 j4 r4 (.dat (.str [c3])),.tst 921023043 false,aG i5 j5 r5 (.dat (.str [c4])),.tst 921023043 false,aG i6 j6 r6 (.dat (.str [c5])),.tst 921023043 true,bN i6 j6 r7]) (o:=.fz [10,9] []) (g:=cg [(true,!bP 109 77 c5),(false,!bP 101 69 c4),(false,!bP 116 84 c3),(false,!bP 115 83 c2),(false,!bP 121 89 c1),(true,bP 115 83 c0),(false,bP 112 80 c0),(false,nb [c0] [62]),(false,bX c0)]) (aA (congrArg (!·) t8) (aA (congrArg (!·) t7) (aA (congrArg (!·) t6) (aA (congrArg (!·) t5) (aA (congrArg (!·) t4) (aA t3 (aA t2 (aA t1 (aA t0 aH))))))))) (an h7 (an h6 (an h5 (an h4 (an h3 (an h2 (an h1 trivial))))))) (by kernel_rfl)) a7.none
              ·obtain⟨r6,h6,a6⟩:=aK (z:=z) (i:=i5) (j:=j5) a5 a4.len
               exact .mk i5 j5 r6 [] (.inl rfl) (z.use (hs:=[aG i1 j1 r1 (.dat (.str [c0])),.tst 895011034 false,.tst 897013024 false,.tst 907015033 false,.tst 917017035 true,aG i2 j2 r2 (.dat (.str [c1])),.tst 921023043 false,aG i3 j3 r3 (.dat (.str [c2])),.tst 921023043 false,aG i4 j4 r4 (.dat (.str [c3])),.tst 921023043 false,aG i5 j5 r5 (.dat (.str [c4])),.tst 921023043 true,bN i5 j5 r6]) (o:=.fz [10,9] []) (g:=cg [(true,!bP 101 69 c4),(false,!bP 116 84 c3),(false,!bP 115 83 c2),(false,!bP 121 89 c1),(true,bP 115 83 c0),(false,bP 112 80 c0),(false,nb [c0] [62]),(false,bX c0)]) (aA (congrArg (!·) t7) (aA (congrArg (!·) t6) (aA (congrArg (!·) t5) (aA (congrArg (!·) t4) (aA t3 (aA t2 (aA t1 (aA t0 aH)))))))) (an h6 (an h5 (an h4 (an h3 (an h2 (an h1 trivial)))))) (by kernel_rfl)) a6.none
            ·obtain⟨r5,h5,a5⟩:=aK (z:=z) (i:=i4) (j:=j4) a4 a3.len
             exact .mk i4 j4 r5 [] (.inl rfl) (z.use (hs:=[aG i1 j1 r1 (.dat (.str [c0])),.tst 895011034 false,.tst 897013024 false,.tst 907015033 false,.tst 917017035 true,aG i2 j2 r2 (.dat (.str [c1])),.tst 921023043 false,aG i3 j3 r3 (.dat (.str [c2])),.tst 921023043 false,aG i4 j4 r4 (.dat (.str [c3])),.tst 921023043 true,bN i4 j4 r5]) (o:=.fz [10,9] []) (g:=cg [(true,!bP 116 84 c3),(false,!bP 115 83 c2),(false,!bP 121 89 c1),(true,bP 115 83 c0),(false,bP 112 80 c0),(false,nb [c0] [62]),(false,bX c0)]) (aA (congrArg (!·) t6) (aA (congrArg (!·) t5) (aA (congrArg (!·) t4) (aA t3 (aA t2 (aA t1 (aA t0 aH))))))) (an h5 (an h4 (an h3 (an h2 (an h1 trivial))))) (by kernel_rfl)) a5.none
          ·obtain⟨r4,h4,a4⟩:=aK (z:=z) (i:=i3) (j:=j3) a3 a2.len
           exact .mk i3 j3 r4 [] (.inl rfl) (z.use (hs:=[aG i1 j1 r1 (.dat (.str [c0])),.tst 895011034 false,.tst 897013024 false,.tst 907015033 false,.tst 917017035 true,aG i2 j2 r2 (.dat (.str [c1])),.tst 921023043 false,aG i3 j3 r3 (.dat (.str [c2])),.tst 921023043 true,bN i3 j3 r4]) (o:=.fz [10,9] []) (g:=cg [(true,!bP 115 83 c2),(false,!bP 121 89 c1),(true,bP 115 83 c0),(false,bP 112 80 c0),(false,nb [c0] [62]),(false,bX c0)]) (aA (congrArg (!·) t5) (aA (congrArg (!·) t4) (aA t3 (aA t2 (aA t1 (aA t0 aH)))))) (an h4 (an h3 (an h2 (an h1 trivial)))) (by kernel_rfl)) a4.none
        ·obtain⟨r3,h3,a3⟩:=aK (z:=z) (i:=i2) (j:=j2) a2 a1.len
         exact .mk i2 j2 r3 [] (.inl rfl) (z.use (hs:=[aG i1 j1 r1 (.dat (.str [c0])),.tst 895011034 false,.tst 897013024 false,.tst 907015033 false,.tst 917017035 true,aG i2 j2 r2 (.dat (.str [c1])),.tst 921023043 true,bN i2 j2 r3]) (o:=.fz [10,9] []) (g:=cg [(true,!bP 121 89 c1),(true,bP 115 83 c0),(false,bP 112 80 c0),(false,nb [c0] [62]),(false,bX c0)]) (aA (congrArg (!·) t4) (aA t3 (aA t2 (aA t1 (aA t0 aH))))) (an h3 (an h2 (an h1 trivial))) (by kernel_rfl)) a3.none
      ·obtain⟨r2,h2,a2⟩:=aK (z:=z) (i:=i1) (j:=j1) a1 a.len
       exact .mk i1 j1 r2 [] (.inl rfl) (z.use (hs:=[aG i1 j1 r1 (.dat (.str [c0])),.tst 895011034 false,.tst 897013024 false,.tst 907015033 false,.tst 917017035 false,bN i1 j1 r2]) (o:=.fz [10,9] []) (g:=cg [(false,bP 115 83 c0),(false,bP 112 80 c0),(false,nb [c0] [62]),(false,bX c0)]) (aA t3 (aA t2 (aA t1 (aA t0 aH)))) (an h2 (an h1 trivial)) (by kernel_rfl)) a2.none
 |_=>exact trivial
end
section
noncomputable abbrev MJ:Nat→Bool:=kN Pr false
noncomputable def EH (ct:CT)(l:Nm):Option Res:=match ct with
 |.dead d=>some ⟨true,304,.dead d,[.com (dL [0] [65533] 0 (l.takeWhile MJ))],(l.dropWhile MJ).tail⟩
 |_=>none
theorem QZ {z:c8}{i j:Int}{r:Stm}{ms l:Nm}{ct:CT}(a:At' r ms l):Exs z 598 ct i j r (EH ct l):=by
 cases ct with
 |dead d=>
  obtain⟨i1,j1,r1,h1,a1⟩:=mM (z:=z) (opp:=false) (i:=i) (j:=j) IT a [.dat (.str [62])] (.inl ⟨rfl,rfl⟩)
  have hu:(l.takeWhile MJ).length≤15000:=v4 a
  show Exs z 598 (.dead d) i j r (some ⟨true,304,.dead d,[.com (dL [0] [65533] 0 (l.takeWhile MJ))],(l.dropWhile MJ).tail⟩)
  generalize l.takeWhile MJ=u at *
  generalize l.dropWhile MJ=t at *
  cases t with
  |nil=>
   obtain⟨i2,j2,r2,h2,a2⟩:=aN (z:=z) (i:=i1) (j:=j1) a1
   exact .mk i2 j2 r2 [] (.inl rfl) (z.use (hs:=[DJ i1 j1 r1 u,aG i2 j2 r2 (.dat .non)]) (o:=.fz [8] []) (g:=cg [(true,Nat.ble u.length lim)]) (aA (Ps hu rfl) aH) (an h2 (an h1 trivial)) (by kernel_rfl)) (a2 [])
  |cons c t=>
   obtain⟨i2,j2,r2,h2,a2⟩:=aO (z:=z) (i:=i1) (j:=j1) a1
   exact .mk i2 j2 r2 [] (.inl rfl) (z.use (hs:=[DJ i1 j1 r1 u,aG i2 j2 r2 (.dat (.str [c]))]) (o:=.fz [8] []) (g:=cg [(true,Nat.ble u.length lim)]) (aA (Ps hu rfl) aH) (an h2 (an h1 trivial)) (by kernel_rfl)) a2.none
 |_=>exact trivial
noncomputable def Sw:List (Nat×(CT→Nm→Option Res)):=[(304,Dm),(353,Dn),(360,Do),(598,EH),(605,Dw),(612,DO),(619,DP),(626,DQ),(633,DS),(640,DV),(647,DW),(654,DX),(661,DY),(668,DZ),(675,EG),(682,Da),(689,Db),(696,Di),(703,Dj),(710,Dc),(717,Dd),(724,De),(731,Df),(738,Dk),(745,Dl),(752,Dg),(759,Dh)]
noncomputable def sp (st:Nat)(ct:CT)(l:Nm):Option Res:=match qA Sw st with
 |some f=>f ct l
 |none=>none
noncomputable def AllP {α:Type}(P:α→Prop):List α→Prop
 | []=>True
 |x::r=>P x∧AllP P r
theorem AllP.at {α:Type}{P:α→Prop}:∀ {l:List α} {x:α},AllP P l→x∈l→P x
 |_::_,_,h,.head _=>h.1
 |_::_,_,h,.tail _ m=>AllP.at h.2 m
theorem KC {z:c8}{i j:Int}{r:Stm}{ms l:Nm}{st:Nat}{ct:CT}{res:Res}(sm:ct.Small)(a:At' r ms l)(e:sp st ct l=some res):ExR z st ct i j r res:=by
 unfold sp at e
 cases h:qA Sw st with
 |none=>rw[h]at e;cases e
 |some f=>
  rw[h]at e
  have q:AllP (fun x=>Exs z x.1 ct i j r (x.2 ct l)) Sw:=⟨QT sm a,QV sm a,QW sm a,QZ a,QX sm a,Pu sm a,Pv sm a,Pw sm a,Px sm a,Py sm a,Pz sm a,QA sm a,QB sm a,QC sm a,QY sm a,QD sm a,QF sm a,QN sm a,QO sm a,QG sm a,QH sm a,QI sm a,QJ sm a,QP sm a,QR sm a,QK sm a,QM sm a,trivial⟩
  have w:Exs z st ct i j r (f ct l):=q.at (kK h)
  rw[show f ct l=_ from e]at w
  exact w
end
section
noncomputable def lB:Nm:=[101,114,114,111,114]
noncomputable def MK:Nm:=[110,111,116,101]
noncomputable def eA:Nm:=[100,111,99,116,121,112,101]
noncomputable def v6:Nm:=[114,111,119]
noncomputable def EI:Nm:=[109,111,114,101]
noncomputable def bW:Nm:=[105,116,101,109]
set_option genCtorIdx true in
inductive Item where
 |text (s:Nm)|error (e:Nm)|note (s:Nm)|doc (n:Nm) (p q:Option Nm) (k:Bool)
noncomputable def Item.toD:Item→D
 |.text s=>.tup [.str cN,.str s]
 |.error e=>.tup [.str lB,.str e]
 |.note s=>.tup [.str MK,.str s]
 |.doc n p q k=>.tup [.str eA,.str n,j9 p,j9 q,.boo k]
noncomputable def Item.len:Item→Nat
 |.text s=>s.length
 |_=>0
noncomputable def eL:List Item→Nat
 | []=>0
 |i::r=>i.len+eL r
noncomputable def dl (ds:List D):List V:=ds.map .dat
noncomputable def bJ (row:List Item):List V:=row.map fun i=>.dat i.toD
noncomputable def nY (l:Item):Item→List Item
 |.text s=>match l with
  |.text t=>[.text (t++s)]
  |l=>[l,.text s]
 |it=>[l,it]
noncomputable def eU:List Item→Item→List Item
 | [],it=>[it]
 |a::r,it=>match r with
  | []=>nY a it
  |r=>a::eU r it
noncomputable def bD (row:List Item):List Item→List Item
 | []=>row
 |i::r=>bD (eU row i) r
theorem jB (a b:List Item):bJ (a++b)=bJ a++bJ b:=List.map_append
theorem mO (a:List Item):(bJ a).length=a.length:=List.length_map ..
theorem mP (f:Nat→Bool):∀ a:List Item,(bJ a).all (V.cl f)=true
 | []=>rfl
 |_::r=>mP f r
theorem mQ (f:Nat→Nat):∀ a:List Item,(bJ a).map (V.ren f)=bJ a
 | []=>rfl
 |_::r=>congrArg (_::·) (mQ f r)
theorem cP (f:Nat→Bool):∀ a:List D,(dl a).all (V.cl f)=true
 | []=>rfl
 |_::r=>cP f r
theorem cF (f:Nat→Nat):∀ a:List D,(dl a).map (V.ren f)=dl a
 | []=>rfl
 |_::r=>congrArg (_::·) (cF f r)
inductive Last:List Item→Prop
 |none:Last []
 |some (a:List Item) (l:Item):Last (a++[l])
theorem jQ:∀ row:List Item,Last row
 | []=>.none
 |a::r=>match r,jQ r with
  |_,.none=>.some [] a
  |_,.some b l=>.some (a::b) l
theorem eP (l it:Item):∀ a:List Item,eU (a++[l]) it=a++nY l it
 | []=>rfl
 |b::r=>by
  have h:=eP l it r
  cases r with
  |nil=>exact congrArg (b::·) h
  |cons c r=>exact congrArg (b::·) h
theorem jC:∀ a b:List Item,eL (a++b)=eL a+eL b
 | [],b=>(Nat.zero_add _).symm
 |i::r,b=>by show i.len+eL (r++b)=i.len+eL r+eL b;rw[jC r b,Nat.add_assoc]
theorem EJ (l it:Item):eL (nY l it)=l.len+it.len∧(nY l it).length≤2:=by
 have h2:∀ a b:Item,eL [a,b]=a.len+b.len:=fun a b=>rfl
 cases it with
 |text s=>cases l with
  |text t=>exact⟨by show(t++s).length+0=t.length+s.length;rw[List.length_append];rfl,Nat.le_succ _⟩
  |_=>exact⟨h2 _ _,Nat.le_refl _⟩
 |_=>exact⟨h2 _ _,Nat.le_refl _⟩
theorem v7 (row:List Item)(it:Item):eL (eU row it)=eL row+it.len∧(eU row it).length≤row.length+1:=match row,jQ row with
 |_,.none=>⟨by show it.len+0=0+it.len;omega,Nat.le_refl _⟩
 |_,.some a l=>by
  have j:=EJ l it
  rw[eP,jC,jC,j.1,List.length_append,List.length_append]
  exact⟨by show eL a+(l.len+it.len)=eL a+(l.len+0)+it.len;omega,by show _≤a.length+1+1;omega⟩
inductive Fits (row more:List Item):Prop
 |mk (a:eL row+eL more≤90000) (b:row.length+more.length≤90000)
theorem Fits.next {row r:List Item}{i:Item}:Fits row (i::r)→Fits (eU row i) r
 |.mk a b=>by
  have q:=v7 row i
  have a:eL row+(i.len+eL r)≤90000:=a
  have b:row.length+(r.length+1)≤90000:=b
  exact .mk (by omega) (by omega)
theorem Sx {n:Nat}(h:n≤90000):Nat.ble n lim=true:=Nat.ble_eq_true_of_le (Nat.le_trans h (Nat.le_of_ble_eq_true rfl))
theorem Fits.bl {row more:List Item}:Fits row more→Nat.ble (bJ row).length lim=true
 |.mk _ b=>Sx (by rw[mO];omega)
theorem Fits.cat {a r:List Item}{t s:Nm}:Fits (a++[.text t]) (.text s::r)→Nat.ble (t.length+s.length) lim=true
 |.mk q _=>Sx (by
  rw[jC]at q
  have q:eL a+(t.length+0)+(s.length+eL r)≤90000:=q
  omega)
section
variable {c:Cx}{n:Nat}{hp:List O}
theorem uA {α β:Type}{x:Option α}{a:α}{f:∀ a,x=some a→Option β}(h:x=some a):tk x f=f a h:=by subst h;rfl
theorem EK {α β:Type}{x:Option α}{a:α}{f:∀ a,x=some a→β}{g:x=none→β}(h:x=some a):GP x f g=f a h:=by subst h;rfl
theorem Rs.at {β:Type}{T:β→List O→Prop}(z:Rs β T){v:β}{hp:List O}(h1:z.v=v)(h2:z.hp=hp)(g:z.g=true):T v hp:=h1▸h2▸z.ok g
theorem nZ {o x:V}{xs:List V}{k:Int}(e:items o hp=some xs)(e2:rE xs k=some x)(g:gH k=true):bZ c n hp getItem c.VT o (.dat (.int k)) x hp:=by
 have h:∃ z,w5 c n hp o k=some z∧z.v=x∧z.hp=hp∧z.g=gH k:=by unfold w5;rw[EK e,uA e2];exact⟨_,rfl,rfl,rfl,rfl⟩
 exact h.elim fun z q=>z.at q.2.1 q.2.2.1 (q.2.2.2.trans g)
theorem EM {x:V}{l j:Nat}{xs:List V}{k:Int}(e:hp[l]?.bind O.lstE=some xs)(e2:nH k xs.length=some j)(g:gH k=true):LI c n hp (.ref l) (.dat (.int k)) x (hp.set l (.lst (xs.set j x))):=by
 have h:∃ z,Ki c n hp (.ref l) (.dat (.int k)) x=some z∧z.hp=hp.set l (.lst (xs.set j x))∧z.g=gH k:=⟨_,(uA e).trans (uA e2),rfl,rfl⟩
 exact h.elim fun z q=>z.at rfl q.2.1 (q.2.2.trans g)
end
theorem v8 (n:Nat):nH (-1) (n+1)=some n:=rfl
theorem qG (a:List Item)(l:Item):(bJ (a++[l])).length=a.length+1:=by rw[mO,List.length_append];rfl
theorem o6 (a:List Item)(l:Item):rE (bJ (a++[l])) (-1)=some (.dat l.toD):=by
 unfold rE
 rw[qG,v8,jB]
 show(bJ a++[.dat l.toD])[a.length]? =_
 rw[← mO a,List.getElem?_concat_length]
theorem o7 (a:List Item)(l:Item):wX (bJ (a++[l]))=true:=by cases a <;>rfl
theorem v9 (a:List Item)(l l':Item):(bJ (a++[l])).set a.length (.dat l'.toD)=bJ (a++[l']):=by
 rw[jB,jB,← mO a]
 show(bJ a++[_]).set _ _=_
 rw[List.set_append_right _ _ (Nat.le_refl _),Nat.sub_self]
 rfl
theorem wA (a:List Item)(l it:Item):bJ (a++[l])++[.dat it.toD]=bJ (a++[l,it]):=by rw[jB,jB,List.append_assoc];rfl
noncomputable def Zc.runC {p:Program}{G:Gam}{tl:List (Nat×Fn)}(z:Zc p G tl)(n f:Nat)(args:List V)(hp:List O)(hs:List Hi):Option (An V):=bd (xL z.t z.ev n f args ⟨hp,hs,true,True⟩) fun a=>gd (qB a.s.hs) fun _=>some ⟨a.v,a.s.hp,a.s.g,a.s.ob⟩
theorem Zc.useC {p:Program}{G:Gam}{tl:List (Nat×Fn)}{z:Zc p G tl}{n f:Nat}{args:List V}{hp hp':List O}{hs:List Hi}{v:V}{g:Bool}{ob:Prop}(hg:g=true)(ho:ob)(e:z.runC n f args hp hs=some ⟨v,hp',g,ob⟩):CallOk z.c n f args hp v hp':=by
 obtain⟨a,e1,e⟩:=gU e
 obtain⟨_,e⟩:=lS e
 cases e
 exact(a.ok ⟨hg,ho⟩).2
noncomputable def uB:Fn:=kL k8 [34] []
noncomputable def uC:ForI:=vR (nW uB.body 0)
noncomputable abbrev AL (X:List V)(m:V)(eo:List (Nm×V)):List O:=[.lst X,.fr ([(v6,.ref 0),(EI,m)]++eo)]
section
variable (z:c8){m:V}{row r:List Item}{it:Item}
noncomputable abbrev AT (z:c8)(m:V)(row row':List Item)(it:Item):Prop:=RX z.c uB.names 0 ⟨1,[]⟩ (AL (bJ row) m [(bW,.dat it.toD)]) uC.b .next (AL (bJ row') m [(bW,.dat it.toD)])
theorem EN (h:Fits row (it::r)):AT z m row (eU row it) it:=by
 have hb:=h.bl
 match row,jQ row,h,hb with
 |_,.none,h,hb=>
  show RX z.c uB.names 0 ⟨1,[]⟩ (AL [] m [(bW,.dat it.toD)]) uC.b .next (AL [.dat it.toD] m [(bW,.dat it.toD)])
  cases it <;>exact z.useX (hs:=[]) (g:=true) rfl trivial (by kernel_rfl)
 |_,.some a l,h,hb=>
  rw[eP]
  have app:∀ it,Nat.ble (bJ (a++[l])).length lim=true→nY l it=[l,it]→AT z m (a++[l]) (a++[l,it]) it:=fun it hb hj=>by
   have hn:=o7 a l
   have ha:=o6 a l
   unfold AT
   rw[← wA]
   generalize bJ (a++[l])=X at *
   cases it with
   |text s=>
    have hL:∀ l:Item,rE X (-1)=some (.dat l.toD)→(∀ t,l≠.text t)→RX z.c uB.names 0 ⟨1,[]⟩ (AL X m [(bW,.dat (Item.text s).toD)]) uC.b .next (AL (X++[.dat (Item.text s).toD]) m [(bW,.dat (Item.text s).toD)]):=fun l ha hj=>by
     have hO:bZ z.c 0 (AL X m [(bW,.dat (Item.text s).toD)]) getItem z.c.VT (.ref 0) (.dat (.int (-1))) (.dat l.toD) (AL X m [(bW,.dat (Item.text s).toD)]):=nZ rfl ha rfl
     cases l with
     |text t=>exact absurd rfl (hj t)
     |error e=>exact z.useX (hs:=[.tst 1209033036 true,.itm 1209042049 (.dat (Item.error e).toD)]) (g:=cg [(true,Nat.ble X.length lim),(true,wX X),(true,Nat.ble X.length lim)]) (aA hb (aA hn (aA hb aH))) (an hO trivial) (by kernel_rfl)
     |note e=>exact z.useX (hs:=[.tst 1209033036 true,.itm 1209042049 (.dat (Item.note e).toD)]) (g:=cg [(true,Nat.ble X.length lim),(true,wX X),(true,Nat.ble X.length lim)]) (aA hb (aA hn (aA hb aH))) (an hO trivial) (by kernel_rfl)
     |doc e p q k=>exact z.useX (hs:=[.tst 1209033036 true,.itm 1209042049 (.dat (Item.doc e p q k).toD)]) (g:=cg [(true,Nat.ble X.length lim),(true,wX X),(true,Nat.ble X.length lim)]) (aA hb (aA hn (aA hb aH))) (an hO trivial) (by kernel_rfl)
    exact hL l ha fun t e=>by subst e;exact absurd (congrArg List.length hj:(1:Nat)=2) (Nat.ne_of_lt (Nat.le_refl 2))
   |_=>exact z.useX (hs:=[]) (g:=cg [(true,Nat.ble X.length lim)]) (aA hb aH) trivial (by kernel_rfl)
  cases it with
  |text s=>cases l with
   |text t=>
    have hn:=o7 a (.text t)
    have ha:=o6 a (.text t)
    have hi:nH (-1) (bJ (a++[.text t])).length=some a.length:=by rw[qG];rfl
    have hc:=h.cat
    show RX z.c uB.names 0 ⟨1,[]⟩ _ uC.b .next (AL (bJ (a++[.text (t++s)])) m _)
    rw[← v9 a (.text t) (.text (t++s))]
    generalize bJ (a++[.text t])=X at *
    have hO:bZ z.c 0 (AL X m [(bW,.dat (Item.text s).toD)]) getItem z.c.VT (.ref 0) (.dat (.int (-1))) (.dat (Item.text t).toD) (AL X m [(bW,.dat (Item.text s).toD)]):=nZ rfl ha rfl
    exact z.useX (hs:=[.tst 1209033036 true,.itm 1209042049 (.dat (Item.text t).toD),.itm 1210031038 (.dat (Item.text t).toD),.set (AL (X.set a.length (.dat (Item.text (t++s)).toD)) m [(bW,.dat (Item.text s).toD)])]) (g:=cg [(true,Nat.ble (t.length+s.length) lim),(true,wX X),(true,Nat.ble X.length lim)])
     (ob:=LI z.c 0 (AL X m [(bW,.dat (Item.text s).toD)]) (.ref 0) (.dat (.int (-1))) (.dat (Item.text (t++s)).toD) (AL (X.set a.length (.dat (Item.text (t++s)).toD)) m [(bW,.dat (Item.text s).toD)])∧bZ z.c 0 (AL X m [(bW,.dat (Item.text s).toD)]) getItem z.c.VT (.ref 0) (.dat (.int (-1))) (.dat (Item.text t).toD) (AL X m [(bW,.dat (Item.text s).toD)])∧
      bZ z.c 0 (AL X m [(bW,.dat (Item.text s).toD)]) getItem z.c.VT (.ref 0) (.dat (.int (-1))) (.dat (Item.text t).toD) (AL X m [(bW,.dat (Item.text s).toD)])∧True) (aA hc (aA hn (aA hb aH))) ⟨EM rfl hi rfl,hO,hO,trivial⟩ (by kernel_rfl)
   |_=>exact app _ hb rfl
  |_=>exact app _ hb rfl
noncomputable abbrev AR (z:c8)(v:V)(m:V)(row:List Item)(eo:List (Nm×V))(k j:Nat)(row':List Item)(eo':List (Nm×V)):Prop:=ForR z.c uB.names 0 ⟨1,[]⟩ uC.g uC.b 2 v k j (AL (bJ row) m eo) .next (AL (bJ row') m eo')
theorem wB (ds:List D):∀ (r:List Item) (j:Nat) (row:List Item) (eo:List (Nm×V)),ds.drop j=r.map Item.toD→Fits row r→(eo=[]∨∃ v,eo=[(bW,v)])→∃ eo',AR z (.dat (.lst ds)) (.dat (.lst ds)) row eo (r.length+1) j (bD row r) eo'
 | [],j,row,eo,h,_,_=>⟨eo,.stop (all:=dl ds) rfl (by rw[dl,List.getElem?_map,List.getElem?_eq_none (List.drop_eq_nil_iff.mp h)];rfl)⟩
 |it::r,j,row,eo,h,hf,he=>by
  have hk:ds[j]? =some it.toD:=by have:=congrArg (·[0]?) h;simpa using this
  have ht:ds.drop (j+1)=r.map Item.toD:=by rw[← List.drop_drop,h];rfl
  obtain⟨eo',q⟩:=wB ds r (j+1) (eU row it) [(bW,.dat it.toD)] ht hf.next (.inr ⟨_,rfl⟩)
  have b:RG z.c uB.names 0 ⟨1,[]⟩ (AL (bJ row) (.dat (.lst ds)) eo) uC.g (.dat it.toD) (AL (bJ row) (.dat (.lst ds)) [(bW,.dat it.toD)]):=by
   rcases he with rfl|⟨v,rfl⟩
   ·exact cM (by kernel_rfl) (by kernel_rfl)
   ·exact cM (by kernel_rfl) (by kernel_rfl)
  exact⟨eo',.turn (all:=dl ds) rfl (by rw[dl,List.getElem?_map,hk];rfl) b (EN z hf) rfl .id q⟩
theorem EO {row:List Item}{o:O}{v:V}(h:v.cl (cA [0])=true)(e:v.ren (kr [0])=v):g5 1 [] [] v [.lst (bJ row),o]=some (v,[.lst (bJ row)]):=by
 have q:cL [0] [.lst (bJ row),o]=true:=by
  show(_&&true)=true
  rw[Bool.and_true]
  exact mP _ _
 show(match true&&(v.cl (cA [0])&&cL [0] [.lst (bJ row),o])with|true=>_|false=>_)=_
 rw[h,q]
 show some (v.ren (kr [0]),[O.lst ((bJ row).map (V.ren _))])=_
 rw[e,mQ]
theorem Qa {more:List Item}(h:Fits row more):CallOk z.c 1 846 [.ref 0,.dat (.lst (more.map Item.toD))] [.lst (bJ row)] (.dat .non) [.lst (bJ (bD row more))]:=by
 obtain⟨eo,q⟩:=wB z (more.map Item.toD) more 0 row [] rfl h (.inl rfl)
 generalize hd:more.map Item.toD=ds at *
 have h1:RE z.c uB.names 0 ⟨1,[]⟩ (AL (bJ row) (.dat (.lst ds)) []) uC.i (.dat (.lst ds)) (AL (bJ row) (.dat (.lst ds)) []):=z.useE (hs:=[]) (g:=true) rfl trivial (by kernel_rfl)
 have h2:RS z.c uB.names 0 ⟨1,[]⟩ (AL (bJ row) (.dat (.lst ds)) []) uC.s .next (AL (bJ (bD row more)) (.dat (.lst ds)) eo):=kJ (fun env x=>dA (by kernel_rfl) env x) h1 rfl rfl q
 have h3:CallOk z.c 1 846 [.ref 0,.dat (.lst ds)] [.lst (bJ row)] (.dat .non) (AL (bJ (bD row more)) (.dat (.lst ds)) eo):=z.useC (hs:=[.stm 1208 .next (AL (bJ (bD row more)) (.dat (.lst ds)) eo)]) (g:=true) rfl (an h2 trivial) (by kernel_rfl)
 exact dF h3 (EO (v:=.dat .non) rfl rfl:g5 1 [] [] (.dat .non) _=some (.dat .non,_))
end
end
section
noncomputable def kR:Nm:=[116,111,107,101,110,105,122,101,114]
noncomputable def o8:Nm:=[116,111,107,101,110]
noncomputable def xV:Nm:=[107,105,110,100]
noncomputable def dO:Tok→Item
 |.err w=>.error w
 |.erv w _=>.error w
 |.chr1 x=>.text x
 |.chr2 x=>.text x
 |.com s=>.note s
 |.doc n p q k=>.doc n p q k
noncomputable def ML:Option Nm→Bool
 |none=>true
 |some x=>Nat.ble x.length 1000
noncomputable def CT.smallB:CT→Bool
 |.dead _=>true
 |.com s=>Nat.ble s.length 1000
 |.doc n p q _=>Nat.ble n.length 1000&&(ML p&&ML q)
theorem zI {p:Option Nm}(h:ML p=true):(p.getD []).length≤1000:=match p,h with
 |none,_=>Nat.zero_le _
 |some _,h=>Nat.le_of_ble_eq_true h
theorem CT.small_of {ct:CT}(h:ct.smallB=true):ct.Small:=match ct,h with
 |.dead _,_=>trivial
 |.com _,h=>Nat.le_of_ble_eq_true h
 |.doc ..,h=>have q:=Bool.and_eq_true_iff.mp h;have w:=Bool.and_eq_true_iff.mp q.2;⟨Nat.le_of_ble_eq_true q.1,zI w.1,zI w.2⟩
noncomputable def wC (z:Res):Option (List Item):=match z.out with
 | []=>match z.rest with
  | []=>some []
  |_=>none
 |_=>none
noncomputable def run:Nat→Nat→CT→Nm→Option (List Item)
 |0,_,_,_=>none
 |k+1,st,ct,l=>match ct.smallB with
  |false=>none
  |true=>match sp st ct l with
   |none=>none
   |some z=>match z.more with
    |false=>wC z
    |true=>match run k z.st z.ct z.rest with
     |none=>none
     |some b=>some (z.out.map dO++b)
inductive RunR:Nat→CT→Nm→List Item→Prop
 |stop {st st':Nat} {ct ct':CT} {l:Nm} (sm:ct.Small) (e:sp st ct l=some ⟨false,st',ct',[],[]⟩):RunR st ct l []
 |step {st st':Nat} {ct ct':CT} {l rest:Nm} {out:List Tok} {b:List Item} (sm:ct.Small) (e:sp st ct l=some ⟨true,st',ct',out,rest⟩) (r:RunR st' ct' rest b):RunR st ct l (out.map dO++b)
theorem EP {z:Res}{a:List Item}(h:wC z=some a):z.out=[]∧z.rest=[]∧a=[]:=by
 obtain⟨m,st,ct,out,rest⟩:=z
 cases out with
 |cons _ _=>cases h
 |nil=>cases rest with
  |cons _ _=>cases h
  |nil=>cases h;exact⟨rfl,rfl,rfl⟩
theorem EQ:∀ (k st:Nat) (ct:CT) (l:Nm) (a:List Item),run k st ct l=some a→RunR st ct l a
 |0,_,_,_,_,e=>by cases e
 |k+1,st,ct,l,a,e=>by
  have e:(match ct.smallB with|false=>none|true=>match sp st ct l with|none=>none|some z=>match z.more with|false=>wC z|true=>match run k z.st z.ct z.rest with|none=>none|some b=>some (z.out.map dO++b))=some a:=e
  cases sm:ct.smallB with
  |false=>rw[sm]at e;cases e
  |true=>
   rw[sm]at e
   cases es:sp st ct l with
   |none=>rw[es]at e;cases e
   |some z=>
    rw[es]at e
    obtain⟨m,st',ct',out,rest⟩:=z
    cases m with
    |false=>
     obtain⟨rfl,rfl,rfl⟩:=EP e
     exact .stop (CT.small_of sm) es
    |true=>
     have e:(match run k st' ct' rest with|none=>none|some b=>some (out.map dO++b))=some a:=e
     cases er:run k st' ct' rest with
     |none=>rw[er]at e;cases e
     |some b=>rw[er]at e;cases e;exact .step (CT.small_of sm) es (EQ k st' ct' rest b er)
noncomputable def gI:GenX:=Sh (kL k8 AS.2 []).body
noncomputable def gN:aU:=(kL k8 AS.2 []).names
noncomputable def jD:Fn:=kL k8 [43] []
noncomputable def lH:ForI:=vR (nW jD.body 2)
noncomputable def o9 (q:List Tok):List V:=q.map fun t=>.dat t.toD
noncomputable def CL (t:Nm)(o:List (Nm×V))(X:List V)(i j:Int)(r:Stm)(st:Nat)(c:V)(Q:List V)(co:O):List O:=
 [.fr ([(cN,.dat (.str t)),(v6,.ref 1),(kR,.ref 3)]++o),.lst X,
  .ns [(kO,.ref 5),(kP,.dat .non),(fS,.dat (.boo false)),(eK,.dat (.lst [])),(mN,.mth st 3),(kQ,.dat (.boo false)),(eZ,c),(jP,.ref 9)],
  .ins 762 2,
  .ns [(bQ,.mth 148 5),(fF,.dat (.lst [.int 0])),(eG,.ref 7),(jN,.dat (.str r.chunk)),(eY,.dat (.int r.chunk.length)),(dU,.dat (.int r.off)),
  (b5,.dat (.lst [])),(dG,.dat (.int i)),(dW,.dat (.int j)),(b7,.dat (IG r.buf))],
  .ins 166 4,.ns [(cN,.dat (.str r.text)),(jM,.dat (.int r.place))],.ins 73 6,.fr [(iS,.ref 3)],.lst Q,co]
noncomputable def lI:CT→V
 |.dead d=>.dat d
 |_=>.ref 10
noncomputable def lJ:CT→O
 |.dead _=>.gone
 |.com s=>Rv (MF s)
 |.doc n p q k=>Rv (MG n p q k)
noncomputable def ES:CT→List Nat
 |.dead _=>[3,2,5,4,7,6,9]
 |_=>[3,2,5,4,7,6,9,10]
noncomputable abbrev IU (o:List (Nm×V)):Prop:=o=[]∨∃ a b,o=[(o8,.dat a),(xV,.dat b)]
section
variable (z:c8){t:Nm}{o:List (Nm×V)}{X Q:List V}{i j:Int}{r:Stm}{st:Nat}{c:V}{co:O}
noncomputable abbrev GF:Fx:=⟨8,[]⟩
theorem MM {σ:List Nat}{b:Bool}{hpS:List O}(hin:Jj σ [.ref 3] (CL t o X i j r st c Q co)=true)(h:CallOk z.c 5 st ([V.ref 3].map (V.ren (kr σ))) (kept σ (CL t o X i j r st c Q co)) (.dat (.boo b)) hpS):
  RB z.c gN 8 GF (CL t o X i j r st c Q co) gI.t.t1 b (fO σ (CL t o X i j r st c Q co) hpS):=
 z.useT (hs:=[.nxt 5 σ (.dat (.boo b)) hpS]) (g:=cg [(true,Jj σ [.ref 3] (CL t o X i j r st c Q co))]) (aA hin aH) (an h trivial) (by kernel_rfl)
theorem Qb:RB z.c gN 8 GF (CL t o X i j r st c Q co) gI.t.t2 false (CL t o X i j r st c Q co):=z.useT (hs:=[]) (g:=true) rfl trivial (by kernel_rfl)
theorem Sy:RB z.c gN 8 GF (CL t o X i j r st c [] co) gI.t.t3 false (CL t o X i j r st c [] co):=z.useT (hs:=[]) (g:=true) rfl trivial (by kernel_rfl)
theorem Sz {d:V}(h:Nat.ble (Q.length+1) lim=true):RB z.c gN 8 GF (CL t o X i j r st c (d::Q) co) gI.t.t3 true (CL t o X i j r st c (d::Q) co):=z.useT (hs:=[]) (g:=cg [(true,Nat.ble (Q.length+1) lim)]) (aA h aH) trivial (by kernel_rfl)
theorem Qc {d:V}(h:Nat.ble (Q.length+1) lim=true):RE z.c gN 8 GF (CL t o X i j r st c (d::Q) co) gI.t.e3 d (CL t o X i j r st c Q co):=z.useE (hs:=[]) (g:=cg [(true,Nat.ble (Q.length+1) lim)]) (aA h aH) trivial (by kernel_rfl)
end
end
section
theorem mR {k:Nat}{τ:List Nat}{hp hp':List O}(h1:KU (List.range k++τ)=true)(h2:cL (List.range k++τ) hp=true)(h3:kept (List.range k++τ) hp=hp'):Gc k hp hp':=by
 refine .fold (fz:=[]) (τ:=τ) (v:=.dat .non) ?_
 show(match KU (List.range k++τ)&&((V.dat D.non).cl (cA (List.range k++τ))&&cL (List.range k++τ) hp)with|true=>_|false=>_)=_
 rw[h1,h2,show(V.dat D.non).cl (cA (List.range k++τ))=true from rfl]
 show some (V.dat .non,kept _ _)=_
 rw[h3]
theorem uD (f:Nat→Bool):∀ a:List Tok,(o9 a).all (V.cl f)=true
 | []=>rfl
 |_::r=>uD f r
theorem pA (f:Nat→Nat):∀ a:List Tok,(o9 a).map (V.ren f)=o9 a
 | []=>rfl
 |_::r=>congrArg (_::·) (pA f r)
theorem eM {a b:Bool}(h:a=true)(k:b=true):(a&&b)=true:=by rw[h,k];rfl
noncomputable abbrev BC:List Nat:=[0,1,2,3,4,5,6,7,8,9,10]
section
variable {t:Nm}{o:List (Nm×V)}{row:List Item}{i j:Int}{r:Stm}{st:Nat}{ct:CT}{q:List Tok}
theorem Qd (ho:IU o)(J:List O):Gc 9 (CL t o (bJ row) i j r st (lI ct) (o9 q) (lJ ct)++J) (CL t o (bJ row) i j r st (lI ct) (o9 q) (lJ ct)):=by
 have h2:cL BC (CL t o (bJ row) i j r st (lI ct) (o9 q) (lJ ct)++J)=true:=by
  have a:=mP (cA BC) row
  have b:=uD (cA BC) q
  generalize bJ row=X at *
  generalize o9 q=Q at *
  have e:cL BC (CL t o X i j r st (lI ct) Q (lJ ct)++J)=(X.all (V.cl (cA BC))&&(Q.all (V.cl (cA BC))&&true)):=by
   rcases ho with rfl|⟨x,y,rfl⟩<;>cases ct <;>kernel_rfl
  rw[e,a,b];rfl
 have h3:kept BC (CL t o (bJ row) i j r st (lI ct) (o9 q) (lJ ct)++J)=CL t o (bJ row) i j r st (lI ct) (o9 q) (lJ ct):=by
  have a:=mQ (kr BC) row
  have b:=pA (kr BC) q
  generalize bJ row=X at *
  generalize o9 q=Q at *
  have e:kept BC (CL t o X i j r st (lI ct) Q (lJ ct)++J)=CL t o (X.map (V.ren (kr BC))) i j r st (lI ct) (Q.map (V.ren (kr BC))) (lJ ct):=by
   rcases ho with rfl|⟨x,y,rfl⟩<;>cases ct <;>kernel_rfl
  rw[e,a,b]
 exact mR (τ:=[9,10]) (by kernel_rfl) h2 h3
end
noncomputable def Tv:Stmt→List Stmt
 |.If _ b _ _=>b
 |_=>[]
noncomputable def TA:Stmt→List Stmt
 |.If _ _ b _=>b
 |_=>[]
noncomputable def ET:Stmt:=nW (Tv (nW lH.b 1)) 0
theorem mS {row:List Item}{it:Item}(h:∀ l,nY l it=[l,it]):eU row it=row++[it]:=match row,jQ row with
 |_,.none=>rfl
 |_,.some a l=>by rw[eP,h,List.append_assoc];rfl
structure NoText (l:Item) where
 k:Nm
 ds:List D
 e:l.toD=.tup (.str k::ds)
 n:nb k cN=false
noncomputable def MN:∀ l:Item,(∀ s,l≠.text s)→NoText l
 |.text s,h=>absurd rfl (h s)
 |.error _,_=>⟨_,_,rfl,rfl⟩
 |.note _,_=>⟨_,_,rfl,rfl⟩
 |.doc ..,_=>⟨_,_,rfl,rfl⟩
section
variable (z:c8){t:Nm}{i j:Int}{r:Stm}{st:Nat}{c:V}{co:O}{Q:List V}
noncomputable abbrev RF:Fx:=⟨0,[]⟩
noncomputable abbrev nE (d:D)(k:Int):List (Nm×V):=[(o8,.dat d),(xV,.dat (.int k))]
noncomputable abbrev aJ (x:Nm):List O:=[.lst [.dat (Item.text x).toD],.fr [(v6,.ref 1),(EI,.ref 11),(bW,.dat (Item.text x).toD)]]
theorem MO {X:List V}{k:Int}{x m:Nm}{ds:List D}(hb:Nat.ble X.length lim=true)(hn:wX X=true)(hm:nb m cN=false)
  (hO:bZ z.c 12 (CL t (nE (tW k x) k) X i j r st c Q co++aJ x) getItem z.c.VT (.ref 1) (.dat (.int (-1))) (.dat (.tup (.str m::ds))) (CL t (nE (tW k x) k) X i j r st c Q co++aJ x)):
  RS z.c jD.names 13 RF (CL t (nE (tW k x) k) X i j r st c Q co) ET .next (CL t (nE (tW k x) k) (X++[.dat (Item.text x).toD]) i j r st c Q co++aJ x):=
 z.useS (hs:=[.tst 1209033036 true,.itm 1209042049 (.dat (.tup (.str m::ds))),.tst 1209042062 false]) (g:=cg [(true,Nat.ble X.length lim),(false,nb m cN),(true,wX X),(true,Nat.ble X.length lim)]) (aA hb (aA hm (aA hn (aA hb aH)))) (an hO trivial) (by kernel_rfl)
theorem MP {a:List Item}{l:Item}{k:Int}{x:Nm}(hb:Nat.ble (bJ (a++[l])).length lim=true)(w:∀ s,l≠.text s)(hj:nY l (.text x)=[l,.text x]):
  RS z.c jD.names 13 RF (CL t (nE (tW k x) k) (bJ (a++[l])) i j r st c Q co) ET .next (CL t (nE (tW k x) k) (bJ (a++nY l (.text x))) i j r st c Q co++aJ x):=by
 have hn:=o7 a l
 have ha:=o6 a l
 rw[hj,← wA]
 have w:=MN l w
 rw[w.e]at ha
 generalize bJ (a++[l])=X at *
 exact MO z hb hn w.n (nZ rfl ha rfl)
theorem KD {row:List Item}{k:Int}{x:Nm}(h:Fits row [.text x]):RS z.c jD.names 13 RF (CL t (nE (tW k x) k) (bJ row) i j r st c Q co) ET .next (CL t (nE (tW k x) k) (bJ (eU row (.text x))) i j r st c Q co++aJ x):=by
 have hb:=h.bl
 match row,jQ row,h,hb with
 |_,.none,h,hb=>exact z.useS (hs:=[]) (g:=true) rfl trivial (by kernel_rfl)
 |_,.some a l,h,hb=>
  have hn:=o7 a l
  have ha:=o6 a l
  have hi:nH (-1) (bJ (a++[l])).length=some a.length:=by rw[qG];rfl
  rw[eP]
  cases l with
  |text u=>
   have hc:=h.cat
   show RS _ _ _ _ _ _ _ (CL t _ (bJ (a++[.text (u++x)])) i j r st c Q co++_)
   rw[← v9 a (.text u) (.text (u++x))]
   generalize bJ (a++[.text u])=X at *
   have hO:bZ z.c 12 (CL t (nE (tW k x) k) X i j r st c Q co++aJ x) getItem z.c.VT (.ref 1) (.dat (.int (-1))) (.dat (Item.text u).toD) (CL t (nE (tW k x) k) X i j r st c Q co++aJ x):=nZ rfl ha rfl
   have hS:LI z.c 12 (CL t (nE (tW k x) k) X i j r st c Q co++aJ x) (.ref 1) (.dat (.int (-1))) (.dat (Item.text (u++x)).toD) (CL t (nE (tW k x) k) (X.set a.length (.dat (Item.text (u++x)).toD)) i j r st c Q co++aJ x):=EM (hp:=CL t (nE (tW k x) k) X i j r st c Q co++aJ x) rfl hi rfl
   exact z.useS (hs:=[.tst 1209033036 true,.itm 1209042049 (.dat (Item.text u).toD),.itm 1210031038 (.dat (Item.text u).toD),.set (CL t (nE (tW k x) k) (X.set a.length (.dat (Item.text (u++x)).toD)) i j r st c Q co++aJ x)]) (g:=cg [(true,Nat.ble (u.length+x.length) lim),(true,wX X),(true,Nat.ble X.length lim)]) (aA hc (aA hn (aA hb aH))) (an hS (an hO (an hO trivial))) (by kernel_rfl)
  |_=>exact MP z hb (by intro s e;cases e) rfl
end
end
section
noncomputable def zJ:Tok→Int
 |.err _=>7
 |.erv _ _=>7
 |.chr1 _=>1
 |.chr2 _=>2
 |.com _=>6
 |.doc .. =>0
section
variable (z:c8){t:Nm}{i j:Int}{r:Stm}{st:Nat}
inductive oNew (d:D):List (Nm×V)→Prop
 |a:oNew d [(o8,.dat d)]
 |b (k:D):oNew d [(o8,.dat d),(xV,.dat k)]
section
variable {c:V}{co:O}{Q:List V}
theorem MQ {row:List Item}{o:List (Nm×V)}{tk:Tok}(h:Fits row [dO tk])(ho:oNew tk.toD o):∃ J,RX z.c jD.names 13 RF (CL t o (bJ row) i j r st c Q co) lH.b .next (CL t (nE tk.toD (zJ tk)) (bJ (eU row (dO tk))) i j r st c Q co++J):=by
 have hb:=h.bl
 have e2:∀ it:Item,bJ (row++[it])=bJ row++[.dat it.toD]:=fun it=>jB row [it]
 cases tk with
 |err w=>
  refine⟨[],?_⟩
  rw[List.append_nil,mS (it:=dO (.err w)) fun l=>rfl,e2]
  generalize bJ row=X at *
  cases ho with
  |a=>exact z.useX (hs:=[]) (g:=cg [(true,Nat.ble X.length lim)]) (aA hb aH) trivial (by kernel_rfl)
  |b k=>exact z.useX (hs:=[]) (g:=cg [(true,Nat.ble X.length lim)]) (aA hb aH) trivial (by kernel_rfl)
 |erv w d=>
  refine⟨[],?_⟩
  rw[List.append_nil,mS (it:=dO (.erv w d)) fun l=>rfl,e2]
  generalize bJ row=X at *
  cases ho with
  |a=>exact z.useX (hs:=[]) (g:=cg [(true,Nat.ble X.length lim)]) (aA hb aH) trivial (by kernel_rfl)
  |b k=>exact z.useX (hs:=[]) (g:=cg [(true,Nat.ble X.length lim)]) (aA hb aH) trivial (by kernel_rfl)
 |com w=>
  refine⟨[],?_⟩
  rw[List.append_nil,mS (it:=dO (.com w)) fun l=>rfl,e2]
  generalize bJ row=X at *
  cases ho with
  |a=>exact z.useX (hs:=[]) (g:=cg [(true,Nat.ble X.length lim)]) (aA hb aH) trivial (by kernel_rfl)
  |b k=>exact z.useX (hs:=[]) (g:=cg [(true,Nat.ble X.length lim)]) (aA hb aH) trivial (by kernel_rfl)
 |doc n p q k=>
  refine⟨[],?_⟩
  rw[List.append_nil,mS (it:=dO (.doc n p q k)) fun l=>rfl,e2]
  generalize bJ row=X at *
  cases ho with
  |a=>exact z.useX (hs:=[]) (g:=cg [(true,Nat.ble X.length lim)]) (aA hb aH) trivial (by kernel_rfl)
  |b k=>exact z.useX (hs:=[]) (g:=cg [(true,Nat.ble X.length lim)]) (aA hb aH) trivial (by kernel_rfl)
 |chr1 x=>
  have q:RS z.c jD.names 13 RF (CL t (nE (tW 1 x) 1) (bJ row) i j r st c Q co) ET .next (CL t (nE (tW 1 x) 1) (bJ (eU row (.text x))) i j r st c Q co++aJ x):=KD z h
  refine⟨aJ x,?_⟩
  show RX _ _ _ _ _ _ _ (CL t (nE (tW 1 x) 1) (bJ (eU row (.text x))) i j r st c Q co++aJ x)
  generalize bJ (eU row (.text x))=Y at *
  generalize bJ row=X at *
  cases ho with
  |a=>exact z.useX (hs:=[.stm 1340 .next (CL t (nE (tW 1 x) 1) Y i j r st c Q co++aJ x)]) (g:=true) rfl (an q trivial) (by kernel_rfl)
  |b k=>exact z.useX (hs:=[.stm 1340 .next (CL t (nE (tW 1 x) 1) Y i j r st c Q co++aJ x)]) (g:=true) rfl (an q trivial) (by kernel_rfl)
 |chr2 x=>
  have q:RS z.c jD.names 13 RF (CL t (nE (tW 2 x) 2) (bJ row) i j r st c Q co) ET .next (CL t (nE (tW 2 x) 2) (bJ (eU row (.text x))) i j r st c Q co++aJ x):=KD z h
  refine⟨aJ x,?_⟩
  show RX _ _ _ _ _ _ _ (CL t (nE (tW 2 x) 2) (bJ (eU row (.text x))) i j r st c Q co++aJ x)
  generalize bJ (eU row (.text x))=Y at *
  generalize bJ row=X at *
  cases ho with
  |a=>exact z.useX (hs:=[.stm 1340 .next (CL t (nE (tW 2 x) 2) Y i j r st c Q co++aJ x)]) (g:=true) rfl (an q trivial) (by kernel_rfl)
  |b k=>exact z.useX (hs:=[.stm 1340 .next (CL t (nE (tW 2 x) 2) Y i j r st c Q co++aJ x)]) (g:=true) rfl (an q trivial) (by kernel_rfl)
end
theorem MR {row:List Item}{o:List (Nm×V)}{tk:Tok}{ct:CT}{q:List Tok}{P:List O→Prop}(ho:IU o)(h:Fits row [dO tk])(hP:P (CL t (nE tk.toD (zJ tk)) (bJ (eU row (dO tk))) i j r st (lI ct) (o9 q) (lJ ct))):
  Cons z.c jD.names 13 RF lH.g lH.b 9 (.dat tk.toD) (CL t o (bJ row) i j r st (lI ct) (o9 q) (lJ ct)) P:=by
 have nx:∀ o1,oNew tk.toD o1→RG z.c jD.names 13 RF (CL t o (bJ row) i j r st (lI ct) (o9 q) (lJ ct)) lH.g (.dat tk.toD) (CL t o1 (bJ row) i j r st (lI ct) (o9 q) (lJ ct))→Cons z.c jD.names 13 RF lH.g lH.b 9 (.dat tk.toD) (CL t o (bJ row) i j r st (lI ct) (o9 q) (lJ ct)) P:=fun o1 h1 g=>by
  obtain⟨J,b⟩:=MQ z (t:=t) (i:=i) (j:=j) (r:=r) (st:=st) (c:=lI ct) (co:=lJ ct) (Q:=o9 q) h h1
  exact .mk g b rfl (Qd (.inr ⟨_,_,rfl⟩) J) hP
 rcases ho with rfl|⟨a,b,rfl⟩
 ·exact nx _ .a (cM (by kernel_rfl) (by kernel_rfl))
 ·exact nx _ (.b b) (cM (by kernel_rfl) (by kernel_rfl))
end
end
section
noncomputable def jR:CT→CT→List Nat
 |.dead _,ct'=>match ct' with
  |.dead _=>[9,10]
  |_=>[9,11]
 |_,_=>[9,10]
section
variable (z:c8){t:Nm}{o:List (Nm×V)}{row:List Item}{i j i1 j1:Int}{r r1:Stm}{st st':Nat}{ct ct':CT}{out:List Tok}{g:List O}
theorem MS (ho:IU o)(hg:g=[]∨g=[.gone]):Gc 9 (fO (ES ct) (CL t o (bJ row) i j r st (lI ct) [] (lJ ct)) (TL i1 j1 r1 st' ct' out++g)) (CL t o (bJ row) i1 j1 r1 st' (lI ct') (o9 out) (lJ ct')):=by
 have a0:=mP (cA (List.range 9++jR ct ct')) row
 have a1:=mQ (kr (List.range 9++jR ct ct')) row
 have b0:=uD (cA (List.range 9++jR ct ct')) out
 have b1:=pA (kr (List.range 9++jR ct ct')) out
 have b2:=pA (rn (ES ct) 11) out
 have c0:o.all (fun x=>x.2.cl (cA (List.range 9++jR ct ct')))=true:=by rcases ho with rfl|⟨x,y,rfl⟩<;>rfl
 have c1:OL (fun l=>.ref (kr (List.range 9++jR ct ct') l)) (kr (List.range 9++jR ct ct')) o=o:=by rcases ho with rfl|⟨x,y,rfl⟩<;>rfl
 clear ho
 generalize bJ row=X at *
 have h2:cL (List.range 9++jR ct ct') (fO (ES ct) (CL t o X i j r st (lI ct) [] (lJ ct)) (TL i1 j1 r1 st' ct' out++g))=true:=by
  have e:cL (List.range 9++jR ct ct') (fO (ES ct) (CL t o X i j r st (lI ct) [] (lJ ct)) (TL i1 j1 r1 st' ct' out++g))=(o.all (fun x=>x.2.cl (cA (List.range 9++jR ct ct')))&&(X.all (V.cl (cA (List.range 9++jR ct ct')))&&(((o9 out).map (V.ren (rn (ES ct) 11))).all (V.cl (cA (List.range 9++jR ct ct')))&&true))):=by
   rcases hg with rfl|rfl <;>cases ct <;>cases ct' <;>kernel_rfl
  rw[e,c0,a0,b2,b0];rfl
 have h3:kept (List.range 9++jR ct ct') (fO (ES ct) (CL t o X i j r st (lI ct) [] (lJ ct)) (TL i1 j1 r1 st' ct' out++g))=CL t o X i1 j1 r1 st' (lI ct') (o9 out) (lJ ct'):=by
  have e:kept (List.range 9++jR ct ct') (fO (ES ct) (CL t o X i j r st (lI ct) [] (lJ ct)) (TL i1 j1 r1 st' ct' out++g))=CL t (OL (fun l=>.ref (kr (List.range 9++jR ct ct') l)) (kr (List.range 9++jR ct ct')) o) (X.map (V.ren (kr (List.range 9++jR ct ct')))) i1 j1 r1 st' (lI ct') (((o9 out).map (V.ren (rn (ES ct) 11))).map (V.ren (kr (List.range 9++jR ct ct')))) (lJ ct'):=by
   rcases hg with rfl|rfl <;>cases ct <;>cases ct' <;>kernel_rfl
  rw[e,c1,a1,b2,b1]
 exact mR (τ:=jR ct ct') (by cases ct <;>cases ct' <;>kernel_rfl) h2 h3
theorem zK {more:Bool}{rest:Nm}(ho:IU o)(x:ExR z st ct i j r ⟨more,st',ct',out,rest⟩):∃ i1 j1 r1 hp1,At' r1 [] rest∧RB z.c gN 8 GF (CL t o (bJ row) i j r st (lI ct) [] (lJ ct)) gI.t.t1 more hp1∧Gc 9 hp1 (CL t o (bJ row) i1 j1 r1 st' (lI ct') (o9 out) (lJ ct')):=match x with
 |.mk i1 j1 r1 g hg h a=>by
  refine⟨i1,j1,r1,_,a,MM z (σ:=ES ct) ?_ ?_,MS ho hg⟩
  ·cases ct <;>kernel_rfl
  ·have e:kept (ES ct) (CL t o (bJ row) i j r st (lI ct) [] (lJ ct))=TL i j r st ct []:=by cases ct <;>kernel_rfl
   have e2:[V.ref 3].map (V.ren (kr (ES ct)))=[.ref 0]:=by cases ct <;>rfl
   rw[e,e2]
   exact h
noncomputable abbrev NX (z:c8)(hpE:List O)(m:Nat)(p:Pt)(hp:List O):Prop:=Nx (Cons z.c jD.names 13 RF lH.g lH.b 9) hpE z.c gN 8 GF gI.t 9 m p hp
noncomputable abbrev PX (z:c8)(hpE:List O)(m k:Nat)(p:Pt)(hp:List O):Prop:=Pull z.c gN 8 GF gI.t 9 (YM (Cons z.c jD.names 13 RF lH.g lH.b 9) hpE z.c gN 8 GF gI.t 9 m) hpE k p hp
theorem Qe {hpE hp:List O}{m:Nat}{p:Pt}(h:∃ k,PX z hpE m k p hp):NX z hpE m p hp:=(Jq (c:=z.c) (gs:=gN) (ng:=8) (gF:=GF) (T:=gI.t) (base:=9) (Cons z.c jD.names 13 RF lH.g lH.b 9) hpE m p hp).mpr h
noncomputable def IV (o:List (Nm×V)):List Tok→List (Nm×V)
 | []=>o
 |tk::q=>IV (nE tk.toD (zJ tk)) q
theorem zL:∀ (q:List Tok) {o:List (Nm×V)},IU o→IU (IV o q)
 | [],_,h=>h
 |_::q,_,_=>zL q (.inr ⟨_,_,rfl⟩)
theorem zM {hpE:List O}{m:Nat}:∀ (q:List Tok) (row:List Item) (o:List (Nm×V)),IU o→Fits row (q.map dO)→(∃ k,PX z hpE m k .o (CL t (IV o q) (bJ (bD row (q.map dO))) i j r st (lI ct) [] (lJ ct)))→
  ∃ k,PX z hpE (q.length+m) k .b (CL t o (bJ row) i j r st (lI ct) (o9 q) (lJ ct))
 | [],row,o,ho,hf,⟨k,h⟩=>⟨k+1,by rw[List.length_nil,Nat.zero_add];exact .pass (by intro e;cases e) (Sy z) h⟩
 |tk::q,row,o,ho,hf,h=>by
  have hl:Nat.ble ((o9 q).length+1) lim=true:=match hf with
   |.mk _ b=>Sx (by rw[o9,List.length_map];rw[List.length_map]at b;exact Nat.le_trans (Nat.le_add_left _ _) b)
  have f1:Fits row [dO tk]:=match hf with
   |.mk a b=>.mk (Nat.le_trans (Nat.add_le_add_left (Nat.add_le_add_left (Nat.zero_le _) _) _) a) (Nat.le_trans (Nat.add_le_add_left (Nat.succ_le_succ (Nat.zero_le _)) _) b)
  have ih:=zM q (eU row (dO tk)) (nE tk.toD (zJ tk)) (.inr ⟨_,_,rfl⟩) hf.next h
  refine⟨1,?_⟩
  rw[List.length_cons,Nat.add_right_comm]
  exact .yld (by intro e;cases e) (Sz z hl) (Qc z hl) (MR z ho f1 (Qe z ih))
theorem Fits.left {a b row:List Item}:Fits row (a++b)→Fits row a
 |.mk x y=>.mk (by rw[jC]at x;omega) (by rw[List.length_append]at y;omega)
theorem Fits.right {b:List Item}:∀ {a row:List Item},Fits row (a++b)→Fits (bD row a) b
 | [],_,h=>h
 |_::a,_,h=>Fits.right (a:=a) (Fits.next h)
theorem fG (b:List Item):∀ (a row:List Item),bD row (a++b)=bD (bD row a) b
 | [],_=>rfl
 |_::a,_=>fG b a _
inductive EndR (t:Nm) (row:List Item):List O→Prop
 |mk (o:List (Nm×V)) (i j:Int) (r:Stm) (st:Nat) (ct:CT) (ho:IU o) (a:At' r [] []):EndR t row (CL t o (bJ row) i j r st (lI ct) [] (lJ ct))
theorem Qf {l:Nm}{items:List Item}(x:RunR st ct l items):∀ (i j:Int) (r:Stm) (ms:Nm) (o:List (Nm×V)) (row:List Item),At' r ms l→IU o→Fits row items→
  ∃ hpE m,EndR t (bD row items) hpE∧∃ k,∀ hp,Gc 9 hp (CL t o (bJ row) i j r st (lI ct) [] (lJ ct))→PX z hpE m k .o hp:=by
 induction x with
 |stop sm e=>
  intro i j r ms o row a ho hf
  obtain⟨i1,j1,r1,hp1,a1,h,gc⟩:=zK z (t:=t) (row:=row) ho (KC (z:=z) (i:=i) (j:=j) sm a e)
  exact⟨_,0,.mk o i1 j1 r1 _ _ ho a1,1,fun hp g=>.stop g h gc⟩
 |step sm e x ih=>
  intro i j r ms o row a ho hf
  obtain⟨i1,j1,r1,hp1,a1,h,gc⟩:=zK z (t:=t) (row:=row) ho (KC (z:=z) (i:=i) (j:=j) sm a e)
  obtain⟨hpE,m,en,k,p⟩:=ih i1 j1 r1 [] (IV o _) _ a1 (zL _ ho) hf.right
  obtain⟨k1,q⟩:=zM z _ row o ho hf.left ⟨k,p _ .id⟩
  exact⟨hpE,_,fG _ _ row▸en,k1+2,fun hp g=>.go g h gc (.pass (by intro e;cases e) (Qb z) q)⟩
end
end
section
noncomputable def TB (t:Nm):List O:=
 [.ns [(kO,.ref 3),(kP,.dat .non),(fS,.dat (.boo false)),(eK,.dat (.lst [])),(mN,.mth 304 1),(kQ,.dat (.boo false)),(eZ,.dat .non)],.ins 762 0,
  .ns [(bQ,.mth 148 3),(fF,.dat (.lst [.int 0])),(eG,.ref 5),(jN,.dat (.str [])),(eY,.dat (.int 0)),(dU,.dat (.int 0)),
  (b5,.dat (.lst [])),(dG,.dat (.int 0)),(dW,.dat (.int 0)),(b7,.dat .non)],
  .ins 166 2,.ns [(cN,.dat (.str t)),(jM,.dat (.int 0))],.ins 73 4]
noncomputable def Qg (t:Nm):List O:=
 [.fr [(cN,.dat (.str t)),(v6,.ref 1),(kR,.ref 3)],.lst [],
  .ns [(kO,.ref 5),(kP,.dat .non),(fS,.dat (.boo false)),(eK,.dat (.lst [])),(mN,.mth 304 3),(kQ,.dat (.boo false)),(eZ,.dat .non)],.ins 762 2,
  .ns [(bQ,.mth 148 5),(fF,.dat (.lst [.int 0])),(eG,.ref 7),(jN,.dat (.str [])),(eY,.dat (.int 0)),(dU,.dat (.int 0)),
  (b5,.dat (.lst [])),(dG,.dat (.int 0)),(dW,.dat (.int 0)),(b7,.dat .non)],
  .ins 166 4,.ns [(cN,.dat (.str t)),(jM,.dat (.int 0))],.ins 73 6]
noncomputable def Tw (t:Nm):List O:=
 [.fr [(cN,.dat (.str t)),(v6,.ref 1),(kR,.ref 3)],.lst [],
  .ns [(kO,.ref 5),(kP,.dat .non),(fS,.dat (.boo false)),(eK,.dat (.lst [])),(mN,.mth 304 3),(kQ,.dat (.boo false)),(eZ,.dat .non),(jP,.ref 9)],.ins 762 2,
  .ns [(bQ,.mth 148 5),(fF,.dat (.lst [.int 0])),(eG,.ref 7),(jN,.dat (.str [])),(eY,.dat (.int 0)),(dU,.dat (.int 0)),
  (b5,.dat (.lst [])),(dG,.dat (.int 0)),(dW,.dat (.int 0)),(b7,.dat .non)],
  .ins 166 4,.ns [(cN,.dat (.str t)),(jM,.dat (.int 0))],.ins 73 6,.fr [(iS,.ref 3)],.lst []]
section
variable (z:c8){t:Nm}
theorem Qh:CallOk z.c 8 261 [.ref 1,.dat (.str t)] [.ns [],.ins 762 0] (.dat .non) (TB t):=z.use (hs:=[]) (o:=.fz [6,12,13] [3,4,8,9]) (g:=true) rfl trivial (by kernel_rfl)
theorem sB:∀ row:List Item,n8 (bJ row)=some (row.map Item.toD)
 | []=>rfl
 |_::r=>by show(n8 (bJ r)).map _=_;rw[sB r];rfl
noncomputable def r0 (t:Nm):Stm:=⟨t,0,[],0,none⟩
theorem UX (hs:∀ c∈t,xO c)(hl:t.length≤10240):At' (r0 t) [] (md false t):=by
 refine⟨⟨Nat.zero_le _,hl,hs,.inl rfl,Nat.le_refl _,Nat.zero_le _⟩,?_,?_,.inl ⟨[],rfl⟩⟩
 ·rw[← jA]
  exact Nat.le_trans (hF (by simp) (by simp) _ _ (Nat.le_refl _)) (Nat.le_trans (hF (by simp) (by simp) _ _ (Nat.le_refl _)) (Nat.le_trans hl (by decide)))
 ·rw[← jA];rfl
theorem TC {hp:List O}(e:hp=Tw t):Gc 9 hp (CL t [] (bJ []) 0 0 (r0 t) 304 (lI (.dead .non)) [] (lJ (.dead .non))):=e▸mR (τ:=[9,10]) (by kernel_rfl) (by kernel_rfl) (by kernel_rfl)
theorem Qi (D:GenD z.K 268 gN gI.b){items:List Item}{k:Nat}(hs:∀ c∈t,xO c)(hl:t.length≤10240)(e:run k 304 (.dead .non) (md false t)=some items)(hf:Fits [] items):∃ hpE,EndR t (bD [] items) hpE∧RS z.c jD.names 13 RF (Qg t) lH.s .next hpE:=by
 obtain⟨hpE,m,en,k,p⟩:=Qf z (EQ _ _ _ _ _ e) 0 0 (r0 t) [] [] [] (UX hs hl) (.inl rfl) hf
 refine⟨hpE,en,?_⟩
 have h1:RE z.c jD.names 13 RF (Qg t) lH.i (.ref 3) (Qg t):=z.useE (hs:=[]) (g:=true) rfl trivial (by kernel_rfl)
 have h0:RS z.c gN 8 ⟨8,[]⟩ (Qg t++[.fr [(hY,.ref 3)]]) gI.s1 .next (Tw t):=z.useS (hs:=[]) (g:=true) rfl trivial (by kernel_rfl)
 exact LU (c:=z.c) (X:=gI) (cl:=jZ) D (fun env x=>dA (by kernel_rfl) env x) (by decide) h1 (I:=⟨762,_,_⟩) rfl rfl rfl h0 (p _ (TC rfl))
theorem MT (D:GenD z.K 268 gN gI.b){items:List Item}{k:Nat}(hs:∀ c∈t,xO c)(hl:t.length≤10240)(e:run k 304 (.dead .non) (md false t)=some items)(hf:Fits [] items):∃ hp2,g9 1 hp2=some (.lst ((bD [] items).map Item.toD))∧RX z.c jD.names 13 RF [.fr [(cN,.dat (.str t))]] jD.body (.ret (.ref 1)) hp2:=by
 obtain⟨hpE,en,h⟩:=Qi z D hs hl e hf
 cases en with
 |mk o i j r st ct ho a=>
  obtain⟨i2,j2,r2,h2,a2⟩:=aN (z:=z) (i:=i) (j:=j) a
  refine⟨_,?_,z.useX (hp':=fO [5,4,7,6] (CL t o (bJ (bD [] items)) i j r st (lI ct) [] (lJ ct)) (SL i2 j2 r2)) (hs:=[.cal 261 8 [2,3] (.dat .non) (TB t),.stm 1337 .next (CL t o (bJ (bD [] items)) i j r st (lI ct) [] (lJ ct)),.cal 133 4 [5,4,7,6] (.dat .non) (SL i2 j2 r2)]) (g:=true)
   (ob:=bR z i j r (.dat .non) i2 j2 r2∧RS z.c jD.names 13 RF (Qg t) lH.s .next (CL t o (bJ (bD [] items)) i j r st (lI ct) [] (lJ ct))∧CallOk z.c 8 261 [.ref 1,.dat (.str t)] [.ns [],.ins 762 0] (.dat .non) (TB t)∧True) rfl ⟨h2,h,Qh z,trivial⟩ (by kernel_rfl)⟩
  show(n8 (bJ (bD [] items))).map Tk.D.lst=_
  rw[sB];rfl
theorem Qj (D:GenD z.K 268 gN gI.b){items:List Item}{k:Nat}(hs:∀ c∈t,xO c)(hl:t.length≤10240)(e:run k 304 (.dead .non) (md false t)=some items)(hf:Fits [] items):CallOk z.c 14 907 [.dat (.str t)] [] (.dat (.lst ((bD [] items).map Item.toD))) []:=by
 obtain⟨hp2,q,b⟩:=MT z D hs hl e hf
 have h:CallOk z.c 14 907 [.dat (.str t)] [] (.ref 1) hp2:=tA (c:=z.c) (n:=13) (z.tab 907 jD (kK (by kernel_rfl))) (by kernel_rfl) (by kernel_rfl) (en:=(by kernel_rfl:yJ jD [.dat (.str t)] []=some (⟨0,[]⟩,[.fr [(cN,.dat (.str t))]]))) b rfl
 have f:g5 0 [1] [] (.ref 1) hp2=some (.dat (.lst ((bD [] items).map Item.toD)),[]):=by
  show((g9 1 hp2).bind _).bind _=_
  rw[q]
  rfl
 exact dF h f
end
end
section
theorem sC (us:List Stmt)(env:Env):∀ ts:List Stmt,execs (ts++us) env=(do match ← execs ts env with|.next=>execs us env|f=>pure f)
 | []=>(pure_bind ..).symm
 |t::ts=>by
  rw[List.cons_append,execs_cons,execs_cons,bind_assoc]
  refine congrArg (exec t env >>= ·) (funext fun f=>?_)
  cases f with
  |next=>exact sC us env ts
  |_=>exact(pure_bind ..).symm
section
variable {c:Cx}{sc:aU}{n:Nat}{F:Fx}{hp hp1 hp2:List O}{ts us:List Stmt}{fl:Fl}
theorem uE (h1:RX c sc n F hp ts .next hp1)(h2:RX c sc n F hp1 us fl hp2):RX c sc n F hp (ts++us) fl hp2:=fun A W s env z=>by
 show wpAny _ _ (execs _ env) _ _ _
 rw[sC]
 exact wpAny_bind (h1.go z fun W1 f s1 z1 L1 x1=>(show f=.next from x1)▸iJ L1 (h2 A W1 s1 env z1))
theorem mT (h1:RX c sc n F hp ts .next hp1)(g:Gc hp.length hp1 hp2):RX c sc n F hp ts .next hp2:=fun A W s env z=>
 wpAny_mono (h1.go z fun W1 f s1 z1 L1 x1=>match Bs z.a z1.a L1 g with
  |.mk W2 z2 L2 _=>(.mk W2 z2.rel L2 x1:Post c c.FT W hp s .next hp2 f s1)) (fun _ _ q=>q) fun _ _ f=>f.elim
end
section
variable {l l2 k:Nat}{hp:List O}{o o2:O}
theorem sE (l:Nat)(r:List Nat):u6 (l::r) l=some 0:=by unfold u6;rw[show Nat.beq l l=true from Nat.beq_refl l]
theorem sF {l i:Nat}(h:l≠i)(r:List Nat):u6 (l::r) i=(u6 r i).map (· +1):=by
 rw[u6]
 cases q:Nat.beq l i with
 |true=>exact absurd (Nat.eq_of_beq_eq_true q) h
 |false=>rfl
theorem xW (hp:List O)(l:Nat)(x:O)(i:Nat)(h:l<hp.length):(hp.set l x)[i]? =if l=i then some x else hp[i]? :=by
 rw[List.getElem?_set]
 by_cases q:l=i
 ·rw[if_pos q,if_pos q,if_pos h]
 ·rw[if_neg q,if_neg q]
theorem EU (h:l<hp.length):fO [l] hp [o]=hp.set l (o.ren (rn [l] hp.length)):=by
 unfold fO
 rw[show List.drop [l].length [o]=[]from rfl,List.map_nil,List.append_nil]
 refine List.ext_getElem? fun i=>?_
 rw[oN,xW _ _ _ _ h,Nat.zero_add]
 by_cases q:l=i
 ·subst q
  rw[if_pos rfl,List.getElem?_eq_getElem h]
  show some (oA _ _ _ _ _)=_
  unfold oA
  rw[sE];rfl
 ·rw[if_neg q]
  have e:oA [l] hp.length [o] i=id:=by
   funext x
   unfold oA
   rw[sF q];rfl
  rw[e,Option.map_id];rfl
theorem MU (h:l<hp.length)(h2:l2<hp.length)(n:l≠l2):fO [l,l2] hp [o,o2]=(hp.set l (o.ren (rn [l,l2] hp.length))).set l2 (o2.ren (rn [l,l2] hp.length)):=by
 unfold fO
 rw[show List.drop [l,l2].length [o,o2]=[]from rfl,List.map_nil,List.append_nil]
 refine List.ext_getElem? fun i=>?_
 rw[oN,xW _ _ _ _ (by rw[List.length_set];exact h2),xW _ _ _ _ h,Nat.zero_add]
 by_cases q2:l2=i
 ·subst q2
  rw[if_pos rfl,List.getElem?_eq_getElem h2]
  show some (oA _ _ _ _ _)=_
  unfold oA
  rw[sF n,sE];rfl
 ·rw[if_neg q2]
  by_cases q:l=i
  ·subst q
   rw[if_pos rfl,List.getElem?_eq_getElem h]
   show some (oA _ _ _ _ _)=_
   unfold oA
   rw[sE];rfl
  ·rw[if_neg q]
   have e:oA [l,l2] hp.length [o,o2] i=id:=by
    funext x
    unfold oA
    rw[sF q,sF q2];rfl
   rw[e,Option.map_id];rfl
end
theorem fK {hp:List O}{l:Nat}{o:O}(h:hp[l]? =some o):hp[l]?.getD .gone=o:=by rw[h];rfl
theorem mU {hp:List O}{l:Nat}{o:O}(h:hp[l]? =some o):l<hp.length:=(List.getElem?_eq_some_iff.mp h).1
theorem xX (l:Nat)(r:List Nat):cA (l::r) l=true:=by unfold cA;rw[sE];rfl
theorem MW (l:Nat)(r:List Nat):kr (l::r) l=0:=by unfold kr;rw[sE];rfl
section
variable {c:Cx}{m f l l2:Nat}{hp:List O}{d:D}{ds X Y X2 Y2:List D}
theorem eS (hx:hp[l]? =some (.lst (dl X)))(h:CallOk c m f (.ref 0::dl ds) [.lst (dl X)] (.dat d) [.lst (dl Y)]):CallOk c m f (.ref l::dl ds) hp (.dat d) (hp.set l (.lst (dl Y))):=by
 have lt:=mU hx
 have g:Jj [l] (.ref l::dl ds) hp=true:=by
  refine eM (eM rfl ?_) (eM ?_ ?_)
  ·exact eM (Nat.ble_eq_true_of_le lt) rfl
  ·exact eM (xX l []) (cP _ ds)
  ·show((hp[l]?.getD .gone).cl _&&true)=true
   rw[fK hx]
   exact eM (cP _ X) rfl
 have q:=mB (n:=m) (v:=.dat d) (hpS:=[.lst (dl Y)]) g (Nat.ble_eq_true_of_le (Nat.le_refl m)) (by
  show CallOk c m f (.ref (kr [l] l)::(dl ds).map _) [(hp[l]?.getD .gone).ren _] _ _
  rw[fK hx,cF,MW]
  show CallOk c m f _ [.lst ((dl X).map _)] _ _
  rw[cF]
  exact h)
 rw[EU lt]at q
 have e:(O.lst (dl Y)).ren (rn [l] hp.length)=.lst (dl Y):=congrArg O.lst (cF _ Y)
 rw[e]at q
 exact q
theorem EW (n:l≠l2)(hx:hp[l]? =some (.lst (dl X)))(hx2:hp[l2]? =some (.lst (dl X2)))(h:CallOk c m f (.ref 0::.ref 1::dl ds) [.lst (dl X),.lst (dl X2)] (.dat d) [.lst (dl Y),.lst (dl Y2)]):CallOk c m f (.ref l::.ref l2::dl ds) hp (.dat d) ((hp.set l (.lst (dl Y))).set l2 (.lst (dl Y2))):=by
 have lt:=mU hx
 have lt2:=mU hx2
 have i2:u6 [l,l2] l2=some 1:=by rw[sF n,sE];rfl
 have g:Jj [l,l2] (.ref l::.ref l2::dl ds) hp=true:=by
  refine eM (eM ?_ ?_) (eM ?_ ?_)
  ·refine eM ?_ rfl
   have e:u6 [l2] l=none:=by rw[sF (Ne.symm n)];rfl
   show(!(u6 [l2] l).isSome)=true
   rw[e];rfl
  ·exact eM (Nat.ble_eq_true_of_le lt) (eM (Nat.ble_eq_true_of_le lt2) rfl)
  ·refine eM (xX l [l2]) (eM ?_ (cP _ ds))
   show(u6 [l,l2] l2).isSome=true
   rw[i2];rfl
  ·show((hp[l]?.getD .gone).cl _&&((hp[l2]?.getD .gone).cl _&&true))=true
   rw[fK hx,fK hx2]
   exact eM (cP _ X) (eM (cP _ X2) rfl)
 have q:=mB (n:=m) (v:=.dat d) (hpS:=[.lst (dl Y),.lst (dl Y2)]) g (Nat.ble_eq_true_of_le (Nat.le_refl m)) (by
  show CallOk c m f (.ref (kr [l,l2] l)::.ref (kr [l,l2] l2)::(dl ds).map _) [(hp[l]?.getD .gone).ren _,(hp[l2]?.getD .gone).ren _] _ _
  rw[fK hx,fK hx2,cF,MW,show kr [l,l2] l2=1 by unfold kr;rw[i2];rfl]
  show CallOk c m f _ [.lst ((dl X).map _),.lst ((dl X2).map _)] _ _
  rw[cF,cF]
  exact h)
 rw[MU lt lt2 n]at q
 have e:∀ Z:List D,(O.lst (dl Z)).ren (rn [l,l2] hp.length)=.lst (dl Z):=fun Z=>congrArg O.lst (cF _ Z)
 rw[e,e]at q
 exact q
end
end
section
noncomputable def iC:Nm:=[119,111,114,100]
section
variable {c:Cx}{sc:aU}{n:Nat}{F:Fx}{g:Expr}{b:List Stmt}{base:Nat}{v:V}{all:List V}
theorem pB (P:Nat→List O→Prop)(hi:∀ k hp,P k hp→e8 v hp=some all)(step:∀ k y hp,all[k]? =some y→P k hp→∃ hp1 hp2,RG c sc n F hp g y hp1∧RX c sc n F hp1 b .next hp2∧P (k+1) hp2):
  ∀ (m k:Nat) (hp:List O),k+m=all.length→P k hp→∃ hp',ForR c sc n F g b base v (m+1) k hp .next hp'∧P all.length hp'
 |0,k,hp,e,h=>⟨hp,.stop (hi k hp h) (List.getElem?_eq_none (Nat.le_of_eq e.symm)),(show k=all.length from e)▸h⟩
 |m+1,k,hp,e,h=>by
  have lt:k<all.length:=by omega
  have hk:=List.getElem?_eq_getElem lt
  obtain⟨hp1,hp2,h1,h2,h3⟩:=step k _ hp hk h
  obtain⟨hp',q,p⟩:=pB P hi step m (k+1) hp2 (by omega) h3
  exact⟨hp',.turn (hi k hp h) hk h1 h2 rfl .id q,p⟩
theorem jS {e:Expr}{L:Nat}(P:Nat→List O→Prop)(hi:∀ k hp,P k hp→e8 v hp=some all)(step:∀ k y hp,all[k]? =some y→P k hp→∃ hp1 hp2 xs w,RG c sc n F hp g y hp1∧RE c sc n F hp1 e w hp2∧hp2[L]?.bind O.lstE=some xs∧Nat.ble xs.length lim=true∧P (k+1) (hp2.set L (.lst (xs++[w])))):
  ∀ (m k:Nat) (hp:List O),k+m=all.length→P k hp→∃ hp',ComR c sc n F g e L v (m+1) k hp hp'∧P all.length hp'
 |0,k,hp,e,h=>⟨hp,.stop (hi k hp h) (List.getElem?_eq_none (Nat.le_of_eq e.symm)),(show k=all.length from e)▸h⟩
 |m+1,k,hp,e,h=>by
  have lt:k<all.length:=by omega
  have hk:=List.getElem?_eq_getElem lt
  obtain⟨hp1,hp2,xs,w,h1,h2,el,hl,h3⟩:=step k _ hp hk h
  obtain⟨hp',q,p⟩:=jS P hi step m (k+1) _ (by omega) h3
  exact⟨hp',.turn (hi k hp h) hk h1 h2 el hl q,p⟩
theorem uF (n k:Nat):(fN 0 n 0)[k]? =if k<n then some (V.dat (.int (Int.ofNat k)))else none:=by
 rw[mG,Nat.zero_add]
 by_cases h:k<n
 ·rw[if_pos h,if_pos h,Int.zero_add];rfl
 ·rw[if_neg h,if_neg h]
theorem jT (a:Int):∀ n i:Nat,(fN a n i).length=n
 |0,_=>rfl
 |n+1,i=>congrArg (· +1) (jT a n (i+1))
end
theorem iL {z:c8}{n f:Nat}{F:Fn}{args:List V}{hp hp1 hp2:List O}{X:Fx}{v:V}(e:qA IC f=some F)(h1:Nat.ble args.length F.params.length=true)(h2:Nat.ble F.params.length (args.length+F.dflt.length)=true)(en:yJ F args hp=some (X,hp1))(b:RX z.c F.names n X hp1 F.body (.ret v) hp2):CallOk z.c (n+1) f args hp v hp2:=
 tA (z.tab f F (kK e)) h1 h2 en b rfl
theorem zN:∀ ds:List D,n8 (dl ds)=some ds
 | []=>rfl
 |_::r=>by show(n8 (dl r)).map _=_;rw[zN r];rfl
theorem sG (f:Nat→V)(g:Nat→Nat):∀ a:List D,(dl a).map (V.mp f g)=dl a
 | []=>rfl
 |_::r=>congrArg (_::·) (sG f g r)
theorem kS (a b:List D):dl (a++b)=dl a++dl b:=List.map_append
theorem dX {l:Nat}{hp:List O}{ds:List D}(h:hp[l]? =some (.lst (dl ds))):g9 l hp=some (.lst ds):=by
 unfold g9
 rw[h]
 show(n8 (dl ds)).map Tk.D.lst=_
 rw[zN];rfl
theorem EX {l:Nat}{hp:List O}{d:D}(h:g9 l hp=some d):g5 0 [l] [] (.ref l) hp=some (.dat d,[]):=by
 show((g9 l hp).bind _).bind _=_
 rw[h]
 show rN 0 [] (sb l d l) _=_
 have e:sb l d l=.dat d:=by unfold sb;rw[show Nat.beq l l=true from Nat.beq_refl l]
 rw[e];rfl
theorem EY {l:Nat}{hp:List O}{X:List D}{d:D}(h:g9 (l+1) (.lst (dl X)::hp)=some d):g5 1 [l+1] [] (.ref (l+1)) (.lst (dl X)::hp)=some (.dat d,[.lst (dl X)]):=by
 show((g9 (l+1) _).bind _).bind _=_
 rw[h]
 show rN 1 [] (sb (l+1) d (l+1)) (.lst ((dl X).map (V.mp _ _))::_)=_
 have e:sb (l+1) d (l+1)=.dat d:=by unfold sb;rw[show Nat.beq (l+1) (l+1)=true from Nat.beq_refl _]
 rw[e,sG]
 have q:∀ hp:List O,cL [0] (.lst (dl X)::hp)=true:=fun hp=>eM (cP _ X) rfl
 show(match true&&(true&&cL [0] _)with|true=>some (V.dat d,[O.lst ((dl X).map (V.ren _))])|false=>none)=_
 rw[q,cF];rfl
noncomputable def aE (w:Nm):Nm:=dL [0] [65533] 0 (dL [13] [10] 0 (dL [13,10] [10] 0 w))
noncomputable def aB (T:List Nm):List D:=T.map .str
noncomputable def b8 (T:List Nm)(it:D):List D:=T.map (fun w=>.tup [.str lB,.str w])++[it]
noncomputable def bT (T:List Nm)(it:Item):List Item:=T.map .error++[it]
theorem fH (T:List Nm)(it:Item):b8 T it.toD=(bT T it).map Item.toD:=by unfold b8 bT;rw[List.map_append,List.map_map];rfl
theorem cQ (T:List Nm)(e:Nm):dl (aB (T++[e]))=dl (aB T)++[.dat (.str e)]:=by unfold aB;rw[List.map_append];exact kS _ _
theorem fI {n m:Nat}(h:n≤m)(k:Nat.ble m lim=true):Nat.ble n lim=true:=Nat.ble_eq_true_of_le (Nat.le_trans h (Nat.le_of_ble_eq_true k))
theorem iT (a:List D):(dl a).length=a.length:=List.length_map ..
theorem cY (a:List Nm):(dl (aB a)).length=a.length:=(iT _).trans (List.length_map ..)
theorem lb {x:Nm}{n:Nat}(h:x.length≤n)(k:Nat.ble n lim=true):Nat.ble x.length lim=true:=Nat.ble_eq_true_of_le (Nat.le_trans h (Nat.le_of_ble_eq_true k))
noncomputable def fT:Fn:=kL k8 [33] []
noncomputable def Qk:Stmt→Expr
 |.Return (some e) _=>e
 |_=>.Constant .none 0 uX
noncomputable def TD:Expr→Expr
 |.BinOp l _ _ _=>l
 |e=>e
noncomputable def fL:ComI:=DM (TD (Qk (nW fT.body 0)))
noncomputable abbrev OD (T:List Nm)(it:D)(o:List V)(eo:List (Nm×V)):List O:=[.lst (dl (aB T)),.fr [(b5,.ref 0),(bW,.dat it)],.lst o,.fr eo]
section
variable (z:c8)
theorem iU {w:Nm}(h:w.length≤10000):CallOk z.c 1 829 [.dat (.str w)] [] (.dat (.str (aE w))) []:=by
 have a:(dL [13,10] [10] 0 w).length≤10000:=Nat.le_trans (hF (by simp) (by simp) _ _ (Nat.le_refl _)) h
 have b:(dL [13] [10] 0 (dL [13,10] [10] 0 w)).length≤10000:=Nat.le_trans (hF (by simp) (by simp) _ _ (Nat.le_refl _)) a
 exact z.use (hs:=[]) (o:=.fz [] []) (g:=cg [(true,Nat.ble (dL [13] [10] 0 (dL [13,10] [10] 0 w)).length lim),(true,Nat.ble (dL [13,10] [10] 0 w).length lim),(true,Nat.ble w.length lim)]) (aA (lb b rfl) (aA (lb a rfl) (aA (lb h rfl) aH))) trivial (by kernel_rfl)
theorem sH (a:List D)(k:Nat):(dl a)[k]? =a[k]?.map .dat:=List.getElem?_map ..
theorem lC {α:Type}{a:List α}{k:Nat}{x:α}(h:a[k]? =some x):a.take (k+1)=a.take k++[x]:=by rw[List.take_add_one,h];rfl
theorem EZ {T:List Nm}{k:Nat}{y:V}(h:(dl (aB T))[k]? =some y):∃ w,T[k]? =some w∧y=.dat (.str w):=by
 rw[sH,aB,List.getElem?_map]at h
 cases e:T[k]? with
 |none=>rw[e]at h;cases h
 |some w=>rw[e]at h;cases h;exact⟨w,rfl,rfl⟩
noncomputable def gK (T:List Nm):List D:=T.map fun w=>.tup [.str lB,.str w]
theorem mV (a:List Nm):(dl (gK a)).length=a.length:=(iT _).trans (List.length_map ..)
theorem sI (a:List Nm)(w:Nm):dl (gK (a++[w]))=dl (gK a)++[.dat (.tup [.str lB,.str w])]:=by unfold gK;rw[List.map_append];exact kS _ _
noncomputable def Ea (T:List Nm)(it:D)(k:Nat)(hp:List O):Prop:=∃ eo,(eo=[]∨∃ v,eo=[(iC,v)])∧hp=OD T it (dl (gK (T.take k))) eo
theorem Ae {T:List Nm}{it:D}(h:T.length≤10000)(k:Nat)(y:V)(hp:List O)(hk:(dl (aB T))[k]? =some y)(p:Ea T it k hp):
  ∃ hp1 hp2 xs w,RG z.c (fQ fT.names fL.s.names) 0 ⟨3,[]⟩ hp fL.t y hp1∧RE z.c (fQ fT.names fL.s.names) 0 ⟨3,[]⟩ hp1 fL.e w hp2∧hp2[2]?.bind O.lstE=some xs∧Nat.ble xs.length lim=true∧Ea T it (k+1) (hp2.set 2 (.lst (xs++[w]))):=by
 obtain⟨eo,he,rfl⟩:=p
 obtain⟨w,hw,rfl⟩:=EZ hk
 have b:RG z.c (fQ fT.names fL.s.names) 0 ⟨3,[]⟩ (OD T it (dl (gK (T.take k))) eo) fL.t (.dat (.str w)) (OD T it (dl (gK (T.take k))) [(iC,.dat (.str w))]):=by
  rcases he with rfl|⟨v,rfl⟩
  ·exact cM (by kernel_rfl) (by kernel_rfl)
  ·exact cM (by kernel_rfl) (by kernel_rfl)
 have e:RE z.c (fQ fT.names fL.s.names) 0 ⟨3,[]⟩ (OD T it (dl (gK (T.take k))) [(iC,.dat (.str w))]) fL.e (.dat (.tup [.str lB,.str w])) (OD T it (dl (gK (T.take k))) [(iC,.dat (.str w))]):=z.useE (hs:=[]) (g:=true) rfl trivial (by kernel_rfl)
 refine⟨_,_,_,_,b,e,rfl,?_,[(iC,.dat (.str w))],.inr ⟨_,rfl⟩,?_⟩
 ·exact fI (Nat.le_trans (Nat.le_of_eq (mV _)) (Nat.le_trans (List.length_take_le' ..) h)) (m:=10000) rfl
 ·rw[lC hw,sI];rfl
theorem Eb {T:List Nm}{it:D}(h:T.length≤10000):RE z.c fT.names 0 ⟨1,[]⟩ [.lst (dl (aB T)),.fr [(b5,.ref 0),(bW,.dat it)]] fL.r (.ref 2) [.lst (dl (aB T)),.fr [(b5,.ref 0),(bW,.dat it)],.lst (dl (gK T)),.gone]:=by
 have h1:RE z.c fT.names 0 ⟨1,[]⟩ [.lst (dl (aB T)),.fr [(b5,.ref 0),(bW,.dat it)]] fL.i (.ref 0) [.lst (dl (aB T)),.fr [(b5,.ref 0),(bW,.dat it)]]:=z.useE (hs:=[]) (g:=true) rfl trivial (by kernel_rfl)
 obtain⟨hp',q,eo,he,rfl⟩:=jS (v:=.ref 0) (all:=dl (aB T)) (Ea T it) (fun k hp p=>p.elim fun eo q=>q.2▸rfl) (Ae z h) (dl (aB T)).length 0 (OD T it [] []) (Nat.zero_add _) ⟨[],.inl rfl,rfl⟩
 have e:=cY T
 rw[e,List.take_length]at q
 exact mJ (fR (by kernel_rfl)) h1 rfl rfl q rfl
theorem iV {T:List Nm}{it:D}(h:T.length≤10000):CallOk z.c 1 839 [.ref 0,.dat it] [.lst (dl (aB T))] (.dat (.lst (b8 T it))) [.lst (dl (aB T))]:=by
 have q:=Eb z (it:=it) h
 have b:RX z.c fT.names 0 ⟨1,[]⟩ [.lst (dl (aB T)),.fr [(b5,.ref 0),(bW,.dat it)]] fT.body (.ret (.ref 5)) [.lst (dl (aB T)),.fr [(b5,.ref 0),(bW,.dat it)],.lst (dl (gK T)),.gone,.lst [.dat it],.lst (dl (gK T)++[.dat it])]:=
  z.useX (hs:=[.exp 1206011047 (.ref 2) [.lst (dl (aB T)),.fr [(b5,.ref 0),(bW,.dat it)],.lst (dl (gK T)),.gone]]) (g:=cg [(true,Nat.ble ((dl (gK T)).length+1) lim)]) (aA (Nat.ble_eq_true_of_le (Nat.le_trans (by rw[mV];exact Nat.succ_le_succ h) (Nat.le_of_ble_eq_true rfl))) aH) (an q trivial) (by kernel_rfl)
 have h3:CallOk z.c 1 839 [.ref 0,.dat it] [.lst (dl (aB T))] (.ref 5) _:=iL (F:=fT) (by kernel_rfl) (by kernel_rfl) (by kernel_rfl) (by kernel_rfl) b
 exact dF h3 (EY (l:=4) (X:=aB T) (dX (ds:=b8 T it) (congrArg (fun x=>some (O.lst x)) (kS (gK T) [it]).symm)))
end
end
section
noncomputable def lK:Nm:=Ul
noncomputable def dY:Nm:=Uq
noncomputable def dZ:Nm:=Up
noncomputable def gV:Nm:=VB
noncomputable def cK:Nm:=[119,111,114,100,115]
noncomputable def fJ:Nm:=[116,111,108,100]
noncomputable def Rw:Nm:=[105]
noncomputable def aW:Nm:=Uy
noncomputable def aS:Nm:=Ux
noncomputable def aZ:Nm:=VA
noncomputable def bH:Nm:=VE
noncomputable abbrev bY:Nm:=lK
noncomputable def GX (w:Nm)(k:Nat):Bool:=nb (cut w (some (Km 0 (Int.ofNat k-2))) (some (Int.ofNat k))) [45,45]
noncomputable def nM (a:Nat):Nm:=bif nb [a] [33]then dY else bif nb [a] [45]then dZ else gV
noncomputable def qH (w:Nm)(T:List Nm)(k:Nat):List Nm:=match w[k]? with
 |none=>T
 |some a=>bif nb [a] [0]then T++[bY]else bif GX w k then T++[nM a]else T
noncomputable def sJ (w:Nm):Nat→List Nm
 |0=>[]
 |k+1=>qH w (sJ w k) k
noncomputable def bU (w:Nm):List Nm:=sJ w w.length
theorem Af (w:Nm)(T:List Nm)(k:Nat):(qH w T k).length≤T.length+1:=by
 unfold qH
 cases w[k]? with
 |none=>exact Nat.le_succ _
 |some a=>
  have q:∀ e:Nm,(T++[e]).length≤T.length+1:=fun e=>by rw[List.length_append];exact Nat.le_refl _
  show(bif nb [a] [0]then T++[bY]else bif GX w k then T++[nM a]else T).length≤_
  cases nb [a] [0]with
  |true=>exact q _
  |false=>cases GX w k with
   |true=>exact q _
   |false=>exact Nat.le_succ _
theorem hV (w:Nm):∀ k,(sJ w k).length≤k
 |0=>Nat.le_refl _
 |k+1=>Nat.le_trans (Af w _ k) (Nat.succ_le_succ (hV w k))
noncomputable def lM:Fn:=kL k8 [37] []
noncomputable def sK:ForI:=vR (nW lM.body 1)
noncomputable abbrev DL (w:Nm)(T:List Nm)(eo:List (Nm×V)):List O:=[.fr ([(cK,.dat (.str w)),(fJ,.ref 1)]++eo),.lst (dl (aB T))]
noncomputable abbrev oI (k:Nat):List (Nm×V):=[(Rw,.dat (.int (Int.ofNat k)))]
theorem sL {w:Nm}{k a:Nat}(h:w[k]? =some a):rE w (Int.ofNat k)=some a:=by
 have lt:=(List.getElem?_eq_some_iff.mp h).1
 unfold rE
 have e:nH (Int.ofNat k) w.length=some k:=by
  show(match Nat.blt k w.length with|true=>some k|false=>none)=_
  rw[show Nat.blt k w.length=true from Nat.ble_eq_true_of_le lt]
 rw[e];exact h
theorem jU {c:Cx}{n:Nat}{hp:List O}{x:Nm}{k:Int}{a:Nat}(e:rE x k=some a)(g:gH k=true):bZ c n hp getItem c.VT (.dat (.str x)) (.dat (.int k)) (.dat (.str [a])) hp:=(w0 c n hp x k a e).ok g
section
variable (z:c8){w:Nm}
theorem Ag {T:List Nm}{k:Nat}(hw:w.length≤1000)(hk:k<w.length)(hT:T.length≤k):RX z.c lM.names 0 ⟨0,[]⟩ (DL w T (oI k)) sK.b .next (DL w (qH w T k) (oI k)):=by
 have ha:=List.getElem?_eq_getElem hk
 have hi:gH (Int.ofNat k)=true:=Nat.ble_eq_true_of_le (Nat.le_trans (Nat.le_of_lt hk) (Nat.le_trans hw (Nat.le_of_ble_eq_true rfl)))
 have hb:Nat.ble w.length lim=true:=lb hw rfl
 have hl:Nat.ble (dl (aB T)).length lim=true:=fI (m:=1000) (by rw[cY];omega) rfl
 unfold qH
 rw[ha]
 generalize w[k]=a at ha
 have hO:∀ hp,bZ z.c 0 hp getItem z.c.VT (.dat (.str w)) (.dat (.int (Int.ofNat k))) (.dat (.str [a])) hp:=fun hp=>jU (sL ha) hi
 show RX _ _ _ _ _ _ _ (DL w (bif nb [a] [0]then T++[bY]else bif GX w k then T++[nM a]else T) (oI k))
 cases h0:nb [a] [0]with
 |true=>
  show RX _ _ _ _ _ _ _ (DL w (T++[bY]) (oI k))
  unfold DL
  rw[cQ]
  generalize dl (aB T)=X at *
  exact z.useX (hs:=[.sub 1237011019 (.dat (.str [a])),.tst 1237011029 true]) (g:=cg [(true,Nat.ble X.length lim),(true,nb [a] [0])]) (aA hl (aA h0 aH)) (an hO trivial) (by kernel_rfl)
 |false=>
  show RX _ _ _ _ _ _ _ (DL w (bif GX w k then T++[nM a]else T) (oI k))
  cases h1:GX w k with
  |false=>
   show RX _ _ _ _ _ _ _ (DL w T (oI k))
   generalize dl (aB T)=X at *
   exact z.useX (hs:=[.sub 1237011019 (.dat (.str [a])),.tst 1237011029 false,.tst 1239013043 false]) (g:=cg [(false,GX w k),(true,Nat.ble w.length lim),(false,nb [a] [0])]) (aA h1 (aA hb (aA h0 aH))) (an hO trivial) (by kernel_rfl)
  |true=>
   show RX _ _ _ _ _ _ _ (DL w (T++[nM a]) (oI k))
   unfold DL
   rw[cQ]
   generalize dl (aB T)=X at *
   unfold nM
   cases h2:nb [a] [33]with
   |true=>exact z.useX (hs:=[.sub 1237011019 (.dat (.str [a])),.tst 1237011029 false,.tst 1239013043 true,.sub 1240015023 (.dat (.str [a])),.tst 1240015030 true]) (g:=cg [(true,Nat.ble X.length lim),(true,nb [a] [33]),(true,GX w k),(true,Nat.ble w.length lim),(false,nb [a] [0])]) (aA hl (aA h2 (aA h1 (aA hb (aA h0 aH))))) (an hO (an hO trivial)) (by kernel_rfl)
   |false=>cases h3:nb [a] [45]with
    |true=>exact z.useX (hs:=[.sub 1237011019 (.dat (.str [a])),.tst 1237011029 false,.tst 1239013043 true,.sub 1240015023 (.dat (.str [a])),.tst 1240015030 false,.sub 1242017025 (.dat (.str [a])),.tst 1242017032 true]) (g:=cg [(true,Nat.ble X.length lim),(true,nb [a] [45]),(false,nb [a] [33]),(true,GX w k),(true,Nat.ble w.length lim),(false,nb [a] [0])]) (aA hl (aA h3 (aA h2 (aA h1 (aA hb (aA h0 aH)))))) (an hO (an hO (an hO trivial))) (by kernel_rfl)
    |false=>exact z.useX (hs:=[.sub 1237011019 (.dat (.str [a])),.tst 1237011029 false,.tst 1239013043 true,.sub 1240015023 (.dat (.str [a])),.tst 1240015030 false,.sub 1242017025 (.dat (.str [a])),.tst 1242017032 false]) (g:=cg [(true,Nat.ble X.length lim),(false,nb [a] [45]),(false,nb [a] [33]),(true,GX w k),(true,Nat.ble w.length lim),(false,nb [a] [0])]) (aA hl (aA h3 (aA h2 (aA h1 (aA hb (aA h0 aH)))))) (an hO (an hO (an hO trivial))) (by kernel_rfl)
noncomputable def Ec (w:Nm)(k:Nat)(hp:List O):Prop:=∃ eo,(eo=[]∨∃ v,eo=[(Rw,v)])∧hp=DL w (sJ w k) eo
theorem Ah (hw:w.length≤1000)(k:Nat)(y:V)(hp:List O)(hk:(fN 0 w.length 0)[k]? =some y)(p:Ec w k hp):∃ hp1 hp2,RG z.c lM.names 0 ⟨0,[]⟩ hp sK.g y hp1∧RX z.c lM.names 0 ⟨0,[]⟩ hp1 sK.b .next hp2∧Ec w (k+1) hp2:=by
 obtain⟨eo,he,rfl⟩:=p
 rw[uF]at hk
 by_cases lt:k<w.length
 ·rw[if_pos lt]at hk
  cases hk
  have b:RG z.c lM.names 0 ⟨0,[]⟩ (DL w (sJ w k) eo) sK.g (.dat (.int (Int.ofNat k))) (DL w (sJ w k) (oI k)):=by
   rcases he with rfl|⟨v,rfl⟩
   ·exact cM (by kernel_rfl) (by kernel_rfl)
   ·exact cM (by kernel_rfl) (by kernel_rfl)
  exact⟨_,_,b,Ag z hw lt (hV w k),oI k,.inr ⟨_,rfl⟩,rfl⟩
 ·rw[if_neg lt]at hk;cases hk
theorem mW (hw:w.length≤1000):CallOk z.c 1 867 [.dat (.str w)] [] (.dat (.lst (aB (bU w)))) []:=by
 have h1:RE z.c lM.names 0 ⟨0,[]⟩ (DL w [] []) sK.i (.rng 0 (Int.ofNat w.length)) (DL w [] []):=z.useE (hs:=[]) (g:=cg [(true,Nat.ble w.length lim)]) (aA (lb hw rfl) aH) trivial (by kernel_rfl)
 obtain⟨hp',q,eo,he,rfl⟩:=pB (base:=2) (v:=.rng 0 (Int.ofNat w.length)) (all:=fN 0 w.length 0) (Ec w) (fun k hp p=>by show some (fN 0 (gT 0 (Int.ofNat w.length)) 0)=_;rw[show gT 0 (Int.ofNat w.length)=w.length by unfold gT;rw[Int.sub_zero];rfl]) (Ah z hw) (fN 0 w.length 0).length 0 (DL w [] []) (Nat.zero_add _) ⟨[],.inl rfl,rfl⟩
 rw[jT]at q
 have h2:RS z.c lM.names 0 ⟨0,[]⟩ (DL w [] []) sK.s .next (DL w (bU w) eo):=kJ (fun env x=>dA (by kernel_rfl) env x) h1 (lb (n:=1000) hw rfl) rfl q
 have b:RX z.c lM.names 0 ⟨0,[]⟩ [.fr [(cK,.dat (.str w))]] lM.body (.ret (.ref 1)) (DL w (bU w) eo):=z.useX (hs:=[.stm 1236 .next (DL w (bU w) eo)]) (g:=true) rfl (an h2 trivial) (by kernel_rfl)
 have h3:CallOk z.c 1 867 [.dat (.str w)] [] (.ref 1) (DL w (bU w) eo):=iL (F:=lM) (by kernel_rfl) (by kernel_rfl) (by kernel_rfl) (by kernel_rfl) b
 exact dF h3 (EX (dX (ds:=aB (bU w)) rfl))
noncomputable def xY (w:Nm)(a:Nat):Bool:=match rE w (-1)with
 |some c=>nb [c] [a]
 |none=>false
noncomputable def iM (w:Nm):List Item:=
 bif fX (.str w) [.str [],.str [45]]then bT (bU w++[aW]) (.note [])
 else bif nb (cut w (some (-3)) none) [45,45,33]then bT (bU w++[aS]) (.note (aE (cut w none (some (-3)))))
 else bif nb (cut w (some (-2)) none) [45,45]then bT (bU w++[aZ]) (.note (aE (cut w none (some (-2)))))
 else bif xY w 45 then bT (bU w++[bH]) (.note (aE (cut w none (some (-1)))))
 else bT (bU w++[aW]) (.note (aE w))
end
end
section
section
variable (z:c8){w:Nm}
noncomputable abbrev NL (w:Nm)(T:List Nm)(e:Nm):List O:=[.fr [(cK,.dat (.str w)),(fJ,.dat (.lst (aB T)))],.lst [.dat (.str e)],.lst (dl (aB T)++[.dat (.str e)])]
theorem jE {T:List Nm}{e:Nm}{it:D}(h:T.length≤1000):CallOk z.c 1 839 [.ref 2,.dat it] (NL w T e) (.dat (.lst (b8 (T++[e]) it))) (NL w T e):=by
 unfold NL
 rw[← cQ]
 exact eS (c:=z.c) (l:=2) (ds:=[it]) (X:=aB (T++[e])) rfl (iV z (by rw[List.length_append];exact Nat.le_trans (Nat.succ_le_succ h) (by decide)))
theorem MX {c:Nat}{T:List Nm}(h0:fX (.str w) [.str [],.str [45]]=true)(hb:Nat.ble w.length lim=true)(hl:Nat.ble ((dl (aB T)).length+1) lim=true)(hT:T.length≤1000)(hD:CallOk z.c 1 867 [.dat (.str w)] [] (.dat (.lst (aB T))) []):CallOk z.c 2 874 [.dat (.str w)] [] (.dat (.lst (b8 (T++[aW]) (Item.note ([])).toD))) []:=
 z.use (hs:=[.cal 867 1 [] (.dat (.lst (aB T))) [],.tst 1249007025 true,.cll 839 1 (.dat (.lst (b8 (T++[aW]) (Item.note ([])).toD))) (NL w T aW)]) (o:=.fz [] []) (g:=cg [(true,Nat.ble ((dl (aB T)).length+1) lim),(true,fX (.str w) [.str [],.str [45]])]) (ob:=CallOk z.c 1 839 [.ref 2,.dat (Item.note ([])).toD] (NL w T aW) (.dat (.lst (b8 (T++[aW]) (Item.note ([])).toD))) (NL w T aW)∧CallOk z.c 1 867 [.dat (.str w)] [] (.dat (.lst (aB T))) []∧True) (aA hl (aA h0 aH)) ⟨(jE z hT),hD,trivial⟩ (by kernel_rfl)
theorem MY {c:Nat}{T:List Nm}(h0:fX (.str w) [.str [],.str [45]]=false)(h1:nb (cut w (some (-3)) none) [45,45,33]=true)(hb:Nat.ble w.length lim=true)(hl:Nat.ble ((dl (aB T)).length+1) lim=true)(hT:T.length≤1000)(hD:CallOk z.c 1 867 [.dat (.str w)] [] (.dat (.lst (aB T))) [])(hc:∀ a b,(cut w a b).length≤10000):CallOk z.c 2 874 [.dat (.str w)] [] (.dat (.lst (b8 (T++[aS]) (Item.note (aE (cut w none (some (-3))))).toD))) []:=
 z.use (hs:=[.cal 867 1 [] (.dat (.lst (aB T))) [],.tst 1249007025 false,.tst 1251007026 true,.cal 829 1 [] (.dat (.str (aE (cut w none (some (-3)))))) [],.cll 839 1 (.dat (.lst (b8 (T++[aS]) (Item.note (aE (cut w none (some (-3))))).toD))) (NL w T aS)]) (o:=.fz [] []) (g:=cg [(true,Nat.ble w.length lim),(true,Nat.ble ((dl (aB T)).length+1) lim),(true,nb (cut w (some (-3)) none) [45,45,33]),(true,Nat.ble w.length lim),(false,fX (.str w) [.str [],.str [45]])]) (ob:=CallOk z.c 1 839 [.ref 2,.dat (Item.note (aE (cut w none (some (-3))))).toD] (NL w T aS) (.dat (.lst (b8 (T++[aS]) (Item.note (aE (cut w none (some (-3))))).toD))) (NL w T aS)∧CallOk z.c 1 829 [.dat (.str (cut w none (some (-3))))] [] (.dat (.str (aE (cut w none (some (-3)))))) []∧CallOk z.c 1 867 [.dat (.str w)] [] (.dat (.lst (aB T))) []∧True) (aA hb (aA hl (aA h1 (aA hb (aA h0 aH))))) ⟨(jE z hT),(iU z (hc _ _)),hD,trivial⟩ (by kernel_rfl)
theorem MZ {c:Nat}{T:List Nm}(h0:fX (.str w) [.str [],.str [45]]=false)(h1:nb (cut w (some (-3)) none) [45,45,33]=false)(h2:nb (cut w (some (-2)) none) [45,45]=true)(hb:Nat.ble w.length lim=true)(hl:Nat.ble ((dl (aB T)).length+1) lim=true)(hT:T.length≤1000)(hD:CallOk z.c 1 867 [.dat (.str w)] [] (.dat (.lst (aB T))) [])(hc:∀ a b,(cut w a b).length≤10000):CallOk z.c 2 874 [.dat (.str w)] [] (.dat (.lst (b8 (T++[aZ]) (Item.note (aE (cut w none (some (-2))))).toD))) []:=
 z.use (hs:=[.cal 867 1 [] (.dat (.lst (aB T))) [],.tst 1249007025 false,.tst 1251007026 false,.tst 1253007025 true,.cal 829 1 [] (.dat (.str (aE (cut w none (some (-2)))))) [],.cll 839 1 (.dat (.lst (b8 (T++[aZ]) (Item.note (aE (cut w none (some (-2))))).toD))) (NL w T aZ)]) (o:=.fz [] []) (g:=cg [(true,Nat.ble w.length lim),(true,Nat.ble ((dl (aB T)).length+1) lim),(true,nb (cut w (some (-2)) none) [45,45]),(true,Nat.ble w.length lim),(false,nb (cut w (some (-3)) none) [45,45,33]),(true,Nat.ble w.length lim),(false,fX (.str w) [.str [],.str [45]])]) (ob:=CallOk z.c 1 839 [.ref 2,.dat (Item.note (aE (cut w none (some (-2))))).toD] (NL w T aZ) (.dat (.lst (b8 (T++[aZ]) (Item.note (aE (cut w none (some (-2))))).toD))) (NL w T aZ)∧CallOk z.c 1 829 [.dat (.str (cut w none (some (-2))))] [] (.dat (.str (aE (cut w none (some (-2)))))) []∧CallOk z.c 1 867 [.dat (.str w)] [] (.dat (.lst (aB T))) []∧True) (aA hb (aA hl (aA h2 (aA hb (aA h1 (aA hb (aA h0 aH))))))) ⟨(jE z hT),(iU z (hc _ _)),hD,trivial⟩ (by kernel_rfl)
theorem Ma {c:Nat}{T:List Nm}(h0:fX (.str w) [.str [],.str [45]]=false)(h1:nb (cut w (some (-3)) none) [45,45,33]=false)(h2:nb (cut w (some (-2)) none) [45,45]=false)(h3:nb [c] [45]=true)(hb:Nat.ble w.length lim=true)(hl:Nat.ble ((dl (aB T)).length+1) lim=true)(hT:T.length≤1000)(hD:CallOk z.c 1 867 [.dat (.str w)] [] (.dat (.lst (aB T))) [])(hO:∀ hp,bZ z.c 1 hp getItem z.c.VT (.dat (.str w)) (.dat (.int (-1))) (.dat (.str [c])) hp)(hc:∀ a b,(cut w a b).length≤10000):CallOk z.c 2 874 [.dat (.str w)] [] (.dat (.lst (b8 (T++[bH]) (Item.note (aE (cut w none (some (-1))))).toD))) []:=
 z.use (hs:=[.cal 867 1 [] (.dat (.lst (aB T))) [],.tst 1249007025 false,.tst 1251007026 false,.tst 1253007025 false,.sub 1255007016 (.dat (.str [c])),.tst 1255007023 true,.cal 829 1 [] (.dat (.str (aE (cut w none (some (-1)))))) [],.cll 839 1 (.dat (.lst (b8 (T++[bH]) (Item.note (aE (cut w none (some (-1))))).toD))) (NL w T bH)]) (o:=.fz [] []) (g:=cg [(true,Nat.ble w.length lim),(true,Nat.ble ((dl (aB T)).length+1) lim),(true,nb [c] [45]),(false,nb (cut w (some (-2)) none) [45,45]),(true,Nat.ble w.length lim),(false,nb (cut w (some (-3)) none) [45,45,33]),(true,Nat.ble w.length lim),(false,fX (.str w) [.str [],.str [45]])]) (ob:=CallOk z.c 1 839 [.ref 2,.dat (Item.note (aE (cut w none (some (-1))))).toD] (NL w T bH) (.dat (.lst (b8 (T++[bH]) (Item.note (aE (cut w none (some (-1))))).toD))) (NL w T bH)∧CallOk z.c 1 829 [.dat (.str (cut w none (some (-1))))] [] (.dat (.str (aE (cut w none (some (-1)))))) []∧(∀ hp,bZ z.c 1 hp getItem z.c.VT (.dat (.str w)) (.dat (.int (-1))) (.dat (.str [c])) hp)∧CallOk z.c 1 867 [.dat (.str w)] [] (.dat (.lst (aB T))) []∧True) (aA hb (aA hl (aA h3 (aA h2 (aA hb (aA h1 (aA hb (aA h0 aH)))))))) ⟨(jE z hT),(iU z (hc _ _)),hO,hD,trivial⟩ (by kernel_rfl)
theorem Mc {c:Nat}{T:List Nm}(h0:fX (.str w) [.str [],.str [45]]=false)(h1:nb (cut w (some (-3)) none) [45,45,33]=false)(h2:nb (cut w (some (-2)) none) [45,45]=false)(h3:nb [c] [45]=false)(hb:Nat.ble w.length lim=true)(hl:Nat.ble ((dl (aB T)).length+1) lim=true)(hT:T.length≤1000)(hD:CallOk z.c 1 867 [.dat (.str w)] [] (.dat (.lst (aB T))) [])(hO:∀ hp,bZ z.c 1 hp getItem z.c.VT (.dat (.str w)) (.dat (.int (-1))) (.dat (.str [c])) hp)(hw:w.length≤10000):CallOk z.c 2 874 [.dat (.str w)] [] (.dat (.lst (b8 (T++[aW]) (Item.note (aE w)).toD))) []:=
 z.use (hs:=[.cal 867 1 [] (.dat (.lst (aB T))) [],.tst 1249007025 false,.tst 1251007026 false,.tst 1253007025 false,.sub 1255007016 (.dat (.str [c])),.tst 1255007023 false,.cal 829 1 [] (.dat (.str (aE w))) [],.cll 839 1 (.dat (.lst (b8 (T++[aW]) (Item.note (aE w)).toD))) (NL w T aW)]) (o:=.fz [] []) (g:=cg [(true,Nat.ble ((dl (aB T)).length+1) lim),(false,nb [c] [45]),(false,nb (cut w (some (-2)) none) [45,45]),(true,Nat.ble w.length lim),(false,nb (cut w (some (-3)) none) [45,45,33]),(true,Nat.ble w.length lim),(false,fX (.str w) [.str [],.str [45]])]) (ob:=CallOk z.c 1 839 [.ref 2,.dat (Item.note (aE w)).toD] (NL w T aW) (.dat (.lst (b8 (T++[aW]) (Item.note (aE w)).toD))) (NL w T aW)∧CallOk z.c 1 829 [.dat (.str (w))] [] (.dat (.str (aE w))) []∧(∀ hp,bZ z.c 1 hp getItem z.c.VT (.dat (.str w)) (.dat (.int (-1))) (.dat (.str [c])) hp)∧CallOk z.c 1 867 [.dat (.str w)] [] (.dat (.lst (aB T))) []∧True) (aA hl (aA h3 (aA h2 (aA hb (aA h1 (aA hb (aA h0 aH))))))) ⟨(jE z hT),(iU z (hw)),hO,hD,trivial⟩ (by kernel_rfl)
theorem Ai (h:fX (.str w) [.str [],.str [45]]=false):∃ c,rE w (-1)=some c:=match w,h with
 |a::r,_=>⟨_,(show(a::r)[r.length]? =some ((a::r)[r.length]'(Nat.lt_succ_self _))from List.getElem?_eq_getElem _)⟩
theorem qI (hw:w.length≤999):CallOk z.c 2 874 [.dat (.str w)] [] (.dat (.lst ((iM w).map Item.toD))) []:=by
 have hb:Nat.ble w.length lim=true:=lb hw rfl
 have hT:(bU w).length≤1000:=Nat.le_trans (hV w _) (Nat.le_trans hw (by decide))
 have hl:Nat.ble ((dl (aB (bU w))).length+1) lim=true:=fI (m:=1001) (by rw[cY];omega) rfl
 have hD:=mW z (w:=w) (Nat.le_trans hw (by decide))
 have hc:∀ a b,(cut w a b).length≤10000:=fun a b=>Nat.le_trans (hI _ _ _) (Nat.le_trans hw (by decide))
 have hw':w.length≤10000:=Nat.le_trans hw (by decide)
 unfold iM
 generalize bU w=T at *
 cases h0:fX (.str w) [.str [],.str [45]]with
 |true=>
  show CallOk _ _ _ _ _ (.dat (.lst ((bT (T++[aW]) (.note [])).map _))) _
  rw[← fH];exact MX z (c:=0) h0 hb hl hT hD
 |false=>
  obtain⟨c,ec⟩:=Ai h0
  have hO:∀ hp,bZ z.c 1 hp getItem z.c.VT (.dat (.str w)) (.dat (.int (-1))) (.dat (.str [c])) hp:=fun hp=>jU ec rfl
  have hL:xY w 45=nb [c] [45]:=by unfold xY;rw[ec]
  rw[hL]
  cases h1:nb (cut w (some (-3)) none) [45,45,33]with
  |true=>
   show CallOk _ _ _ _ _ (.dat (.lst ((bT (T++[aS]) (.note (aE (cut w none (some (-3)))))).map _))) _
   rw[← fH];exact MY z (c:=0) h0 h1 hb hl hT hD hc
  |false=>cases h2:nb (cut w (some (-2)) none) [45,45]with
   |true=>
    show CallOk _ _ _ _ _ (.dat (.lst ((bT (T++[aZ]) (.note (aE (cut w none (some (-2)))))).map _))) _
    rw[← fH];exact MZ z (c:=0) h0 h1 h2 hb hl hT hD hc
   |false=>cases h3:nb [c] [45]with
    |true=>
     show CallOk _ _ _ _ _ (.dat (.lst ((bT (T++[bH]) (.note (aE (cut w none (some (-1)))))).map _))) _
     rw[← fH];exact Ma z h0 h1 h2 h3 hb hl hT hD hO hc
    |false=>
     show CallOk _ _ _ _ _ (.dat (.lst ((bT (T++[aW]) (.note (aE w))).map _))) _
     rw[← fH];exact Mc z h0 h1 h2 h3 hb hl hT hD hO hw'
end
end
section
noncomputable abbrev OE (T:List Nm)(it:D)(o:List V)(eo:List (Nm×V)):List O:=[.fr [(b5,.dat (.lst (aB T))),(bW,.dat it)],.lst o,.fr eo]
section
variable (z:c8)
noncomputable def Ed (T:List Nm)(it:D)(k:Nat)(hp:List O):Prop:=∃ eo,(eo=[]∨∃ v,eo=[(iC,v)])∧hp=OE T it (dl (gK (T.take k))) eo
theorem Aj {T:List Nm}{it:D}(h:T.length≤10000)(k:Nat)(y:V)(hp:List O)(hk:(dl (aB T))[k]? =some y)(p:Ed T it k hp):
  ∃ hp1 hp2 xs w,RG z.c (fQ fT.names fL.s.names) 0 ⟨2,[]⟩ hp fL.t y hp1∧RE z.c (fQ fT.names fL.s.names) 0 ⟨2,[]⟩ hp1 fL.e w hp2∧hp2[1]?.bind O.lstE=some xs∧Nat.ble xs.length lim=true∧Ed T it (k+1) (hp2.set 1 (.lst (xs++[w]))):=by
 obtain⟨eo,he,rfl⟩:=p
 obtain⟨w,hw,rfl⟩:=EZ hk
 have b:RG z.c (fQ fT.names fL.s.names) 0 ⟨2,[]⟩ (OE T it (dl (gK (T.take k))) eo) fL.t (.dat (.str w)) (OE T it (dl (gK (T.take k))) [(iC,.dat (.str w))]):=by
  rcases he with rfl|⟨v,rfl⟩
  ·exact cM (by kernel_rfl) (by kernel_rfl)
  ·exact cM (by kernel_rfl) (by kernel_rfl)
 have e:RE z.c (fQ fT.names fL.s.names) 0 ⟨2,[]⟩ (OE T it (dl (gK (T.take k))) [(iC,.dat (.str w))]) fL.e (.dat (.tup [.str lB,.str w])) (OE T it (dl (gK (T.take k))) [(iC,.dat (.str w))]):=z.useE (hs:=[]) (g:=true) rfl trivial (by kernel_rfl)
 refine⟨_,_,_,_,b,e,rfl,?_,[(iC,.dat (.str w))],.inr ⟨_,rfl⟩,?_⟩
 ·exact fI (Nat.le_trans (Nat.le_of_eq (mV _)) (Nat.le_trans (List.length_take_le' ..) h)) (m:=10000) rfl
 ·rw[lC hw,sI];rfl
theorem Ee {T:List Nm}{it:D}(h:T.length≤10000):RE z.c fT.names 0 ⟨0,[]⟩ [.fr [(b5,.dat (.lst (aB T))),(bW,.dat it)]] fL.r (.ref 1) [.fr [(b5,.dat (.lst (aB T))),(bW,.dat it)],.lst (dl (gK T)),.gone]:=by
 have h1:RE z.c fT.names 0 ⟨0,[]⟩ [.fr [(b5,.dat (.lst (aB T))),(bW,.dat it)]] fL.i (.dat (.lst (aB T))) [.fr [(b5,.dat (.lst (aB T))),(bW,.dat it)]]:=z.useE (hs:=[]) (g:=true) rfl trivial (by kernel_rfl)
 obtain⟨hp',q,eo,he,rfl⟩:=jS (v:=.dat (.lst (aB T))) (all:=dl (aB T)) (Ed T it) (fun k hp p=>p.elim fun eo q=>q.2▸rfl) (Aj z h) (dl (aB T)).length 0 (OE T it [] []) (Nat.zero_add _) ⟨[],.inl rfl,rfl⟩
 have e:=cY T
 rw[e,List.take_length]at q
 exact mJ (fR (by kernel_rfl)) h1 rfl rfl q rfl
theorem xZ {T:List Nm}{it:D}(h:T.length≤10000):CallOk z.c 1 839 [.dat (.lst (aB T)),.dat it] [] (.dat (.lst (b8 T it))) []:=by
 have q:=Ee z (it:=it) h
 have b:RX z.c fT.names 0 ⟨0,[]⟩ [.fr [(b5,.dat (.lst (aB T))),(bW,.dat it)]] fT.body (.ret (.ref 4)) [.fr [(b5,.dat (.lst (aB T))),(bW,.dat it)],.lst (dl (gK T)),.gone,.lst [.dat it],.lst (dl (gK T)++[.dat it])]:=
  z.useX (hs:=[.exp 1206011047 (.ref 1) [.fr [(b5,.dat (.lst (aB T))),(bW,.dat it)],.lst (dl (gK T)),.gone]]) (g:=cg [(true,Nat.ble ((dl (gK T)).length+1) lim)]) (aA (Nat.ble_eq_true_of_le (Nat.le_trans (by rw[mV];exact Nat.succ_le_succ h) (Nat.le_of_ble_eq_true rfl))) aH) (an q trivial) (by kernel_rfl)
 have h3:CallOk z.c 1 839 [.dat (.lst (aB T)),.dat it] [] (.ref 4) _:=iL (F:=fT) (by kernel_rfl) (by kernel_rfl) (by kernel_rfl) (by kernel_rfl) b
 exact dF h3 (EX (dX (ds:=b8 T it) (congrArg (fun x=>some (O.lst x)) (kS (gK T) [it]).symm)))
end
end
section
noncomputable def cR:Nm:=Ut
noncomputable def dI:Nm:=Uw
noncomputable def cI:Nm:=Ur
noncomputable def aP:Nm:=Us
noncomputable def bG:Nm:=Uj
noncomputable def aR:Nm:=Uv
noncomputable def cC:Nm:=Uu
noncomputable def bB:Nm:=VC
noncomputable def uG:Nm:=[114]
noncomputable def Ef:Nm:=[101,110,100,105,110,103]
noncomputable def aV:Nm:=[112,105,101,99,101]
noncomputable def Md:Nm:=[102,117,108,108]
noncomputable def bI (w:Nm):List Item:=
 bif nb w [60,62]then [.error cR,.text [60,62]]
 else bif nb w [60,47]then [.error dI,.text [60,47]]
 else bif nb w [60,47,62]then [.error cI]
 else bif nb (cut w (some 1) (some 2)) [63]then bT [aP] (.note (aE (dL [62] [] 0 (cut w (some 1) none))))
 else bif nb (cut w (some 1) (some 2)) [33]then bT [bG] (.note (aE (dL [62] [] 0 (cut w (some 2) none))))
 else bif nb (cut w (some 1) (some 2)) [47]then bT [aR] (.note (aE (dL [62] [] 0 (cut w (some 2) none))))
 else bT [cC] (.text w)
noncomputable abbrev b9:=Nat×List Item
noncomputable def aX (l:List Item):D:=.lst (l.map Item.toD)
noncomputable def oF (e:b9):D:=.tup [.str [e.1],aX e.2]
noncomputable def aF (es:List b9):List D:=es.map oF
noncomputable def dR:List Nm:=[[],[110,111,116,101],[32,97,32,45,32,98,32],[120,45,45,121],[60,112,62],[45],[97,45,45,33,98],[110,0,116,101],[101,13,10,45,45],[45,45,33,45,120]]
noncomputable def eB (f:Nm):Nat→List b9
 |0=>[]
 |k+1=>eB f k++(match f[k]? with|some a=>[(a,iM (cut f none (some (Int.ofNat (k+1)))))] |none=>[])
noncomputable def c7:List b9:=[(60,bI [60]),(33,bI [60,33]),(45,bI [60,33,45]),(45,iM [])]
noncomputable def zO (w:Nm)(b:Nat):Nm:=match b with
 |0=>[45,45]
 |1=>[45,45,33]
 |_=>bif fX (.str w) [.str [],.str [45]]then []else [45,45]
noncomputable def fU (w e:Nm):List Item:=match e with
 | []=>bT [bB] (.note [])
 |_=>bT (bU (w++e)) (.note (aE w))
noncomputable def nN (w e:Nm):List b9:=c7++eB (w++e) (w++e).length++[(62,fU w e)]
noncomputable def gL:Fn:=kL k8 [39] []
noncomputable def mX:ForI:=vR (nW gL.body 5)
noncomputable abbrev QL (r:Nat)(w e f:Nm)(X:List b9)(eo:List (Nm×V)):List O:=[.fr ([(uG,.dat (.int (Int.ofNat r))),(cK,.dat (.str w)),(Ef,.dat (.str e)),(aV,.ref 2),(Md,.dat (.str f))]++eo),.lst [.dat (.str [45,45]),.dat (.str [45,45,33]),.dat (.str [])],.lst (dl (aF X))]
noncomputable abbrev oS (k:Nat):List (Nm×V):=[(bC,.dat (.int (Int.ofNat (k+1))))]
theorem eC (X:List b9)(x:b9):dl (aF (X++[x]))=dl (aF X)++[.dat (oF x)]:=by unfold aF;rw[List.map_append];exact kS _ _
theorem cG (X:List b9):(dl (aF X)).length=X.length:=(iT _).trans (List.length_map ..)
theorem jF (f:Nm):∀ k,(eB f k).length≤k
 |0=>Nat.le_refl _
 |k+1=>by
  show(eB f k++_).length≤_
  rw[List.length_append]
  refine Nat.add_le_add (jF f k) ?_
  cases f[k]? <;>simp
theorem zP (n k:Nat):(fN 1 n 0)[k]? =if k<n then some (V.dat (.int (Int.ofNat (k+1))))else none:=by
 rw[mG,Nat.zero_add]
 by_cases h:k<n
 ·rw[if_pos h,if_pos h,Int.add_comm];rfl
 ·rw[if_neg h,if_neg h]
section
variable (z:c8){r:Nat}{w e f:Nm}
theorem Eg {X:List b9}{k a:Nat}(hf:f.length≤900)(hX:X.length≤1000)(ha:f[k]? =some a):RX z.c gL.names 3 ⟨0,[]⟩ (QL r w e f X (oS k)) mX.b .next (QL r w e f (X++[(a,iM (cut f none (some (Int.ofNat (k+1)))))]) (oS k)):=by
 have hk:=(List.getElem?_eq_some_iff.mp ha).1
 have hi:gH (Int.ofNat k)=true:=fI (m:=900) (Nat.le_trans (Nat.le_of_lt hk) hf) rfl
 have hO:∀ hp,bZ z.c 3 hp getItem z.c.VT (.dat (.str f)) (.dat (.int (Int.ofNat k))) (.dat (.str [a])) hp:=fun hp=>jU (sL ha) hi
 have hl:Nat.ble (dl (aF X)).length lim=true:=fI (m:=1000) (by rw[cG];exact hX) rfl
 have hn:=qI z (w:=cut f none (some (Int.ofNat (k+1)))) (Nat.le_trans (hI _ _ _) (Nat.le_trans hf (by decide)))
 have e1:(V.dat (.int (Int.ofNat (k+1)-1)):V)=.dat (.int (Int.ofNat k)):=congrArg (fun i=>V.dat (.int i)) (by show((k:Int)+1)-1=k;omega)
 unfold QL
 rw[eC]
 generalize dl (aF X)=X at *
 exact z.useX (hs:=[.val 1266027035 (.dat (.int (Int.ofNat k))),.sub 1266022036 (.dat (.str [a])),.cal 874 2 [] (.dat (aX (iM (cut f none (some (Int.ofNat (k+1))))))) []]) (g:=cg [(true,Nat.ble X.length lim),(true,Nat.ble f.length lim)]) (aA hl (aA (lb hf rfl) aH)) (an hn (an hO (an e1 trivial))) (by kernel_rfl)
noncomputable def Me (r:Nat)(w e f:Nm)(k:Nat)(hp:List O):Prop:=∃ eo,(eo=[]∨∃ v,eo=[(bC,v)])∧hp=QL r w e f (c7++eB f k) eo
theorem Eh (hf:f.length≤900)(k:Nat)(y:V)(hp:List O)(hk:(fN 1 f.length 0)[k]? =some y)(p:Me r w e f k hp):∃ hp1 hp2,RG z.c gL.names 3 ⟨0,[]⟩ hp mX.g y hp1∧RX z.c gL.names 3 ⟨0,[]⟩ hp1 mX.b .next hp2∧Me r w e f (k+1) hp2:=by
 obtain⟨eo,he,rfl⟩:=p
 rw[zP]at hk
 by_cases lt:k<f.length
 ·rw[if_pos lt]at hk
  cases hk
  have b:RG z.c gL.names 3 ⟨0,[]⟩ (QL r w e f (c7++eB f k) eo) mX.g (.dat (.int (Int.ofNat (k+1)))) (QL r w e f (c7++eB f k) (oS k)):=by
   rcases he with rfl|⟨v,rfl⟩
   ·exact cM (by kernel_rfl) (by kernel_rfl)
   ·exact cM (by kernel_rfl) (by kernel_rfl)
  have ha:=List.getElem?_eq_getElem lt
  have hX:(c7++eB f k).length≤1000:=by
   rw[List.length_append]
   have:=jF f k
   show 4+_≤_
   omega
  refine⟨_,_,b,Eg z hf hX ha,oS k,.inr ⟨_,rfl⟩,?_⟩
  rw[eB,ha,List.append_assoc]
 ·rw[if_neg lt]at hk;cases hk
theorem pC (hf:f.length≤900):∃ eo,RS z.c gL.names 3 ⟨0,[]⟩ (QL r w e f c7 []) mX.s .next (QL r w e f (c7++eB f f.length) eo):=by
 have e2:Int.ofNat f.length+1=Int.ofNat (f.length+1):=rfl
 have h1:RE z.c gL.names 3 ⟨0,[]⟩ (QL r w e f c7 []) mX.i (.rng 1 (Int.ofNat (f.length+1))) (QL r w e f c7 []):=z.useE (hs:=[]) (g:=cg [(true,Nat.ble f.length lim)]) (aA (lb hf rfl) aH) trivial (by kernel_rfl)
 obtain⟨hp',q,eo,he,rfl⟩:=pB (base:=3) (v:=.rng 1 (Int.ofNat (f.length+1))) (all:=fN 1 f.length 0) (Me r w e f) (fun k hp p=>by
  show some (fN 1 (gT 1 (Int.ofNat (f.length+1))) 0)=_
  rw[show gT 1 (Int.ofNat (f.length+1))=f.length by unfold gT;show(((f.length:Int)+1)-1).toNat=_;omega]) (Eh z hf) (fN 1 f.length 0).length 0 (QL r w e f c7 []) (Nat.zero_add _) ⟨[],.inl rfl,by rw[show c7++eB f 0=c7 from List.append_nil _]⟩
 rw[jT]at q
 exact⟨eo,kJ (fun env x=>dA (by kernel_rfl) env x) h1 (fI (m:=901) (Nat.succ_le_succ hf) rfl) rfl q⟩
end
end
section
section
variable (z:c8){r k:Nat}{w:Nm}
theorem pD:CallOk z.c 1 773 [] [] (.dat (.lst (aB dR))) []:=z.use (hs:=[]) (o:=.auto) (g:=true) rfl trivial (by kernel_rfl)
theorem qJ:CallOk z.c 2 860 [.dat (.str [60])] [] (.dat (aX (bI [60]))) []:=z.use (hs:=[]) (o:=.auto) (g:=true) rfl trivial (by kernel_rfl)
theorem zQ:CallOk z.c 2 860 [.dat (.str [60,33])] [] (.dat (aX (bI [60,33]))) []:=z.use (hs:=[]) (o:=.auto) (g:=true) rfl trivial (by kernel_rfl)
theorem zR:CallOk z.c 2 860 [.dat (.str [60,33,45])] [] (.dat (aX (bI [60,33,45]))) []:=z.use (hs:=[]) (o:=.auto) (g:=true) rfl trivial (by kernel_rfl)
theorem iD {n:Nat}{ds:List D}{k:Nat}{d:D}(hk:ds[k]? =some d)(h2:k<10000)(hp:List O):bZ z.c n hp getItem z.c.VT (.dat (.lst ds)) (.dat (.int (Int.ofNat k))) (.dat d) hp:=by
 have lt:=(List.getElem?_eq_some_iff.mp hk).1
 refine nZ (xs:=dl ds) rfl ?_ (fI (m:=10000) (Nat.le_of_lt h2) rfl)
 unfold rE
 have e:nH (Int.ofNat k) (dl ds).length=some k:=by
  show(match Nat.blt k (dl ds).length with|true=>some k|false=>none)=_
  rw[iT,show Nat.blt k ds.length=true from Nat.ble_eq_true_of_le lt]
 rw[e,Option.bind_some,sH,hk];rfl
theorem mY (hk:dR[k]? =some w)(h2:k<10)(hp:List O):bZ z.c 3 hp getItem z.c.VT (.dat (.lst (aB dR))) (.dat (.int (Int.ofNat k))) (.dat (.str w)) hp:=iD z (by rw[aB,List.getElem?_map,hk];rfl) (Nat.lt_trans h2 (by decide)) hp
theorem Ql {eo:List (Nm×V)}(hk:dR[k]? =some w)(hk2:k<10)(h1:(V.dat (.int (Int.fmod (Int.ofNat r) 10)):V)=.dat (.int (Int.ofNat k)))(h2:(V.dat (.int (Int.fmod (Int.fdiv (Int.ofNat r) 10) 3)):V)=.dat (.int 0))(hd:(!Builtin.divisionGoesByPylong (Int.ofNat r) 10)=true)(hw:w.length≤800)
  (hf:RS z.c gL.names 3 ⟨0,[]⟩ (QL r w [45,45] (w++[45,45]) c7 []) mX.s .next (QL r w [45,45] (w++[45,45]) (c7++eB (w++[45,45]) (w++[45,45]).length) eo)):∃ hp2,g9 2 hp2=some (.lst (aF (nN w [45,45])))∧RX z.c gL.names 3 ⟨0,[]⟩ [.fr [(uG,.dat (.int (Int.ofNat r)))]] gL.body (.ret (.ref 2)) hp2:=by
 have hO:∀ hp,bZ z.c 3 hp getItem z.c.VT (.dat (.lst (aB dR))) (.dat (.int (Int.ofNat k))) (.dat (.str w)) hp:=mY z hk hk2
 have hw1:(w++[45,45]).length≤900:=by rw[List.length_append];exact Nat.add_le_add hw (by decide:2≤100)
 have hX:Nat.ble (dl (aF (c7++eB (w++[45,45]) (w++[45,45]).length))).length lim=true:=fI (m:=1000) (by rw[cG,List.length_append];have:=jF (w++[45,45]) (w++[45,45]).length;show 4+_≤_;omega) rfl
 have hc:Nat.ble (w.length+2) lim=true:=fI (m:=900) (Nat.add_le_add hw (by decide:2≤100)) rfl
 have hT:CallOk z.c 1 839 [.dat (.lst (aB (bU (w++[45,45])))),.dat (Item.note (aE w)).toD] [] (.dat (aX (fU w [45,45]))) []:=by show CallOk _ _ _ _ _ (.dat (.lst ((bT (bU (w++[45,45])) (.note (aE w))).map Item.toD))) _;rw[← fH];exact xZ z (Nat.le_trans (hV _ _) (Nat.le_trans hw1 (by decide)))
 refine⟨QL r w [45,45] (w++[45,45]) (c7++eB (w++[45,45]) (w++[45,45]).length++[(62,fU w [45,45])]) eo,dX (ds:=aF (nN w [45,45])) rfl,?_⟩
 unfold QL
 rw[eC]
 exact z.useX (hs:=[.cal 773 1 [] (.dat (.lst (aB dR))) [],.val 1259025031 (.dat (.int (Int.ofNat k))),.sub 1259012032 (.dat (.str w)),.val 1260031042 (.dat (.int 0)),.cal 860 2 [] (.dat (aX (bI [60]))) [],.cal 860 2 [] (.dat (aX (bI [60,33]))) [],.cal 860 2 [] (.dat (aX (bI [60,33,45]))) [],.cal 874 2 [] (.dat (aX (iM []))) [],.stm 1265 .next (QL r w [45,45] (w++[45,45]) (c7++eB (w++[45,45]) (w++[45,45]).length) eo),.cal 867 1 [] (.dat (.lst (aB (bU (w++[45,45]))))) [],.cal 829 1 [] (.dat (.str (aE w))) [],.cal 839 1 [] (.dat (aX (fU w [45,45]))) []]) (g:=cg [(true,Nat.ble (dl (aF (c7++eB (w++[45,45]) (w++[45,45]).length))).length lim),(true,Nat.ble (w.length+2) lim),(true,!Builtin.divisionGoesByPylong (Int.ofNat r) 10)]) (ob:=CallOk z.c 1 839 [.dat (.lst (aB (bU (w++[45,45])))),.dat (Item.note (aE w)).toD] [] (.dat (aX (fU w [45,45]))) []∧CallOk z.c 1 829 [.dat (.str w)] [] (.dat (.str (aE w))) []∧CallOk z.c 1 867 [.dat (.str (w++[45,45]))] [] (.dat (.lst (aB (bU (w++[45,45]))))) []∧RS z.c gL.names 3 ⟨0,[]⟩ (QL r w [45,45] (w++[45,45]) c7 []) mX.s .next (QL r w [45,45] (w++[45,45]) (c7++eB (w++[45,45]) (w++[45,45]).length) eo)∧CallOk z.c 2 874 [.dat (.str [])] [] (.dat (aX (iM []))) []∧CallOk z.c 2 860 [.dat (.str [60,33,45])] [] (.dat (aX (bI [60,33,45]))) []∧CallOk z.c 2 860 [.dat (.str [60,33])] [] (.dat (aX (bI [60,33]))) []∧CallOk z.c 2 860 [.dat (.str [60])] [] (.dat (aX (bI [60]))) []∧(V.dat (.int (Int.fmod (Int.fdiv (Int.ofNat r) 10) 3)):V)=.dat (.int 0)∧(∀ hp,bZ z.c 3 hp getItem z.c.VT (.dat (.lst (aB dR))) (.dat (.int (Int.ofNat k))) (.dat (.str w)) hp)∧(V.dat (.int (Int.fmod (Int.ofNat r) 10)):V)=.dat (.int (Int.ofNat k))∧CallOk z.c 1 773 [] [] (.dat (.lst (aB dR))) []∧True) (aA hX (aA hc (aA hd aH))) ⟨hT,iU z (Nat.le_trans hw (by decide)),mW z (Nat.le_trans hw1 (by decide)),hf,qI z (Nat.zero_le _),zR z,zQ z,qJ z,h2,hO,h1,pD z,trivial⟩ (by kernel_rfl)
theorem Qm {eo:List (Nm×V)}(hk:dR[k]? =some w)(hk2:k<10)(h1:(V.dat (.int (Int.fmod (Int.ofNat r) 10)):V)=.dat (.int (Int.ofNat k)))(h2:(V.dat (.int (Int.fmod (Int.fdiv (Int.ofNat r) 10) 3)):V)=.dat (.int 1))(hd:(!Builtin.divisionGoesByPylong (Int.ofNat r) 10)=true)(hw:w.length≤800)
  (hf:RS z.c gL.names 3 ⟨0,[]⟩ (QL r w [45,45,33] (w++[45,45,33]) c7 []) mX.s .next (QL r w [45,45,33] (w++[45,45,33]) (c7++eB (w++[45,45,33]) (w++[45,45,33]).length) eo)):∃ hp2,g9 2 hp2=some (.lst (aF (nN w [45,45,33])))∧RX z.c gL.names 3 ⟨0,[]⟩ [.fr [(uG,.dat (.int (Int.ofNat r)))]] gL.body (.ret (.ref 2)) hp2:=by
 have hO:∀ hp,bZ z.c 3 hp getItem z.c.VT (.dat (.lst (aB dR))) (.dat (.int (Int.ofNat k))) (.dat (.str w)) hp:=mY z hk hk2
 have hw1:(w++[45,45,33]).length≤900:=by rw[List.length_append];exact Nat.add_le_add hw (by decide:3≤100)
 have hX:Nat.ble (dl (aF (c7++eB (w++[45,45,33]) (w++[45,45,33]).length))).length lim=true:=fI (m:=1000) (by rw[cG,List.length_append];have:=jF (w++[45,45,33]) (w++[45,45,33]).length;show 4+_≤_;omega) rfl
 have hc:Nat.ble (w.length+3) lim=true:=fI (m:=900) (Nat.add_le_add hw (by decide:3≤100)) rfl
 have hT:CallOk z.c 1 839 [.dat (.lst (aB (bU (w++[45,45,33])))),.dat (Item.note (aE w)).toD] [] (.dat (aX (fU w [45,45,33]))) []:=by show CallOk _ _ _ _ _ (.dat (.lst ((bT (bU (w++[45,45,33])) (.note (aE w))).map Item.toD))) _;rw[← fH];exact xZ z (Nat.le_trans (hV _ _) (Nat.le_trans hw1 (by decide)))
 refine⟨QL r w [45,45,33] (w++[45,45,33]) (c7++eB (w++[45,45,33]) (w++[45,45,33]).length++[(62,fU w [45,45,33])]) eo,dX (ds:=aF (nN w [45,45,33])) rfl,?_⟩
 unfold QL
 rw[eC]
 exact z.useX (hs:=[.cal 773 1 [] (.dat (.lst (aB dR))) [],.val 1259025031 (.dat (.int (Int.ofNat k))),.sub 1259012032 (.dat (.str w)),.val 1260031042 (.dat (.int 1)),.cal 860 2 [] (.dat (aX (bI [60]))) [],.cal 860 2 [] (.dat (aX (bI [60,33]))) [],.cal 860 2 [] (.dat (aX (bI [60,33,45]))) [],.cal 874 2 [] (.dat (aX (iM []))) [],.stm 1265 .next (QL r w [45,45,33] (w++[45,45,33]) (c7++eB (w++[45,45,33]) (w++[45,45,33]).length) eo),.cal 867 1 [] (.dat (.lst (aB (bU (w++[45,45,33]))))) [],.cal 829 1 [] (.dat (.str (aE w))) [],.cal 839 1 [] (.dat (aX (fU w [45,45,33]))) []]) (g:=cg [(true,Nat.ble (dl (aF (c7++eB (w++[45,45,33]) (w++[45,45,33]).length))).length lim),(true,Nat.ble (w.length+3) lim),(true,!Builtin.divisionGoesByPylong (Int.ofNat r) 10)]) (ob:=CallOk z.c 1 839 [.dat (.lst (aB (bU (w++[45,45,33])))),.dat (Item.note (aE w)).toD] [] (.dat (aX (fU w [45,45,33]))) []∧CallOk z.c 1 829 [.dat (.str w)] [] (.dat (.str (aE w))) []∧CallOk z.c 1 867 [.dat (.str (w++[45,45,33]))] [] (.dat (.lst (aB (bU (w++[45,45,33]))))) []∧RS z.c gL.names 3 ⟨0,[]⟩ (QL r w [45,45,33] (w++[45,45,33]) c7 []) mX.s .next (QL r w [45,45,33] (w++[45,45,33]) (c7++eB (w++[45,45,33]) (w++[45,45,33]).length) eo)∧CallOk z.c 2 874 [.dat (.str [])] [] (.dat (aX (iM []))) []∧CallOk z.c 2 860 [.dat (.str [60,33,45])] [] (.dat (aX (bI [60,33,45]))) []∧CallOk z.c 2 860 [.dat (.str [60,33])] [] (.dat (aX (bI [60,33]))) []∧CallOk z.c 2 860 [.dat (.str [60])] [] (.dat (aX (bI [60]))) []∧(V.dat (.int (Int.fmod (Int.fdiv (Int.ofNat r) 10) 3)):V)=.dat (.int 1)∧(∀ hp,bZ z.c 3 hp getItem z.c.VT (.dat (.lst (aB dR))) (.dat (.int (Int.ofNat k))) (.dat (.str w)) hp)∧(V.dat (.int (Int.fmod (Int.ofNat r) 10)):V)=.dat (.int (Int.ofNat k))∧CallOk z.c 1 773 [] [] (.dat (.lst (aB dR))) []∧True) (aA hX (aA hc (aA hd aH))) ⟨hT,iU z (Nat.le_trans hw (by decide)),mW z (Nat.le_trans hw1 (by decide)),hf,qI z (Nat.zero_le _),zR z,zQ z,qJ z,h2,hO,h1,pD z,trivial⟩ (by kernel_rfl)
theorem Qn {eo:List (Nm×V)}(hk:dR[k]? =some w)(hk2:k<10)(h1:(V.dat (.int (Int.fmod (Int.ofNat r) 10)):V)=.dat (.int (Int.ofNat k)))(h2:(V.dat (.int (Int.fmod (Int.fdiv (Int.ofNat r) 10) 3)):V)=.dat (.int 2))(hd:(!Builtin.divisionGoesByPylong (Int.ofNat r) 10)=true)(hm:fX (.str w) [.str [],.str [45]]=true)(hw:w.length≤800)
  (hf:RS z.c gL.names 3 ⟨0,[]⟩ (QL r w [] (w++[]) c7 []) mX.s .next (QL r w [] (w++[]) (c7++eB (w++[]) (w++[]).length) eo)):∃ hp2,g9 2 hp2=some (.lst (aF (nN w [])))∧RX z.c gL.names 3 ⟨0,[]⟩ [.fr [(uG,.dat (.int (Int.ofNat r)))]] gL.body (.ret (.ref 2)) hp2:=by
 have hO:∀ hp,bZ z.c 3 hp getItem z.c.VT (.dat (.lst (aB dR))) (.dat (.int (Int.ofNat k))) (.dat (.str w)) hp:=mY z hk hk2
 have hw1:(w++[]).length≤900:=by rw[List.length_append];exact Nat.add_le_add hw (by decide:0≤100)
 have hX:Nat.ble (dl (aF (c7++eB (w++[]) (w++[]).length))).length lim=true:=fI (m:=1000) (by rw[cG,List.length_append];have:=jF (w++[]) (w++[]).length;show 4+_≤_;omega) rfl
 have hc:Nat.ble (w.length+0) lim=true:=fI (m:=900) (Nat.add_le_add hw (by decide:0≤100)) rfl
 have hh:CallOk z.c 1 839 [.ref 0,.dat (Item.note []).toD] [.lst (dl (aB [bB]))] (.dat (aX (fU w []))) [.lst (dl (aB [bB]))]:=iV z (by decide)
 have hq:=eS (c:=z.c) (m:=1) (f:=839) (hp:=QL r w [] (w++[]) (c7++eB (w++[]) (w++[]).length) eo++[.lst [.dat (.str bB)]]) (l:=3) (d:=aX (fU w [])) (ds:=[(Item.note []).toD]) (X:=aB [bB]) (Y:=aB [bB]) rfl hh
 have hT:CallOk z.c 1 839 [.ref 3,.dat (Item.note []).toD] (QL r w [] (w++[]) (c7++eB (w++[]) (w++[]).length) eo++[.lst [.dat (.str bB)]]) (.dat (aX (fU w []))) (QL r w [] (w++[]) (c7++eB (w++[]) (w++[]).length) eo++[.lst [.dat (.str bB)]]):=hq
 refine⟨QL r w [] (w++[]) (c7++eB (w++[]) (w++[]).length++[(62,fU w [])]) eo++[.lst [.dat (.str bB)]],dX (ds:=aF (nN w [])) rfl,?_⟩
 unfold QL
 rw[eC]
 exact z.useX (hs:=[.cal 773 1 [] (.dat (.lst (aB dR))) [],.val 1259025031 (.dat (.int (Int.ofNat k))),.sub 1259012032 (.dat (.str w)),.val 1260031042 (.dat (.int 2)),.tst 1261024046 false,.cal 860 2 [] (.dat (aX (bI [60]))) [],.cal 860 2 [] (.dat (aX (bI [60,33]))) [],.cal 860 2 [] (.dat (aX (bI [60,33,45]))) [],.cal 874 2 [] (.dat (aX (iM []))) [],.stm 1265 .next (QL r w [] (w++[]) (c7++eB (w++[]) (w++[]).length) eo),.cll 839 1 (.dat (aX (fU w []))) (QL r w [] (w++[]) (c7++eB (w++[]) (w++[]).length) eo++[.lst [.dat (.str bB)]])]) (g:=cg [(true,Nat.ble (dl (aF (c7++eB (w++[]) (w++[]).length))).length lim),(true,Nat.ble (w.length+0) lim),(false,!fX (.str w) [.str [],.str [45]]),(true,!Builtin.divisionGoesByPylong (Int.ofNat r) 10)]) (ob:=CallOk z.c 1 839 [.ref 3,.dat (Item.note []).toD] (QL r w [] (w++[]) (c7++eB (w++[]) (w++[]).length) eo++[.lst [.dat (.str bB)]]) (.dat (aX (fU w []))) (QL r w [] (w++[]) (c7++eB (w++[]) (w++[]).length) eo++[.lst [.dat (.str bB)]])∧RS z.c gL.names 3 ⟨0,[]⟩ (QL r w [] (w++[]) c7 []) mX.s .next (QL r w [] (w++[]) (c7++eB (w++[]) (w++[]).length) eo)∧CallOk z.c 2 874 [.dat (.str [])] [] (.dat (aX (iM []))) []∧CallOk z.c 2 860 [.dat (.str [60,33,45])] [] (.dat (aX (bI [60,33,45]))) []∧CallOk z.c 2 860 [.dat (.str [60,33])] [] (.dat (aX (bI [60,33]))) []∧CallOk z.c 2 860 [.dat (.str [60])] [] (.dat (aX (bI [60]))) []∧(V.dat (.int (Int.fmod (Int.fdiv (Int.ofNat r) 10) 3)):V)=.dat (.int 2)∧(∀ hp,bZ z.c 3 hp getItem z.c.VT (.dat (.lst (aB dR))) (.dat (.int (Int.ofNat k))) (.dat (.str w)) hp)∧(V.dat (.int (Int.fmod (Int.ofNat r) 10)):V)=.dat (.int (Int.ofNat k))∧CallOk z.c 1 773 [] [] (.dat (.lst (aB dR))) []∧True) (aA hX (aA hc (aA (by rw[hm];rfl) (aA hd aH)))) ⟨hT,hf,qI z (Nat.zero_le _),zR z,zQ z,qJ z,h2,hO,h1,pD z,trivial⟩ (by kernel_rfl)
theorem Qo {eo:List (Nm×V)}(hk:dR[k]? =some w)(hk2:k<10)(h1:(V.dat (.int (Int.fmod (Int.ofNat r) 10)):V)=.dat (.int (Int.ofNat k)))(h2:(V.dat (.int (Int.fmod (Int.fdiv (Int.ofNat r) 10) 3)):V)=.dat (.int 2))(hd:(!Builtin.divisionGoesByPylong (Int.ofNat r) 10)=true)(hm:fX (.str w) [.str [],.str [45]]=false)(hw:w.length≤800)
  (hf:RS z.c gL.names 3 ⟨0,[]⟩ (QL r w [45,45] (w++[45,45]) c7 []) mX.s .next (QL r w [45,45] (w++[45,45]) (c7++eB (w++[45,45]) (w++[45,45]).length) eo)):∃ hp2,g9 2 hp2=some (.lst (aF (nN w [45,45])))∧RX z.c gL.names 3 ⟨0,[]⟩ [.fr [(uG,.dat (.int (Int.ofNat r)))]] gL.body (.ret (.ref 2)) hp2:=by
 have hO:∀ hp,bZ z.c 3 hp getItem z.c.VT (.dat (.lst (aB dR))) (.dat (.int (Int.ofNat k))) (.dat (.str w)) hp:=mY z hk hk2
 have hw1:(w++[45,45]).length≤900:=by rw[List.length_append];exact Nat.add_le_add hw (by decide:2≤100)
 have hX:Nat.ble (dl (aF (c7++eB (w++[45,45]) (w++[45,45]).length))).length lim=true:=fI (m:=1000) (by rw[cG,List.length_append];have:=jF (w++[45,45]) (w++[45,45]).length;show 4+_≤_;omega) rfl
 have hc:Nat.ble (w.length+2) lim=true:=fI (m:=900) (Nat.add_le_add hw (by decide:2≤100)) rfl
 have hT:CallOk z.c 1 839 [.dat (.lst (aB (bU (w++[45,45])))),.dat (Item.note (aE w)).toD] [] (.dat (aX (fU w [45,45]))) []:=by show CallOk _ _ _ _ _ (.dat (.lst ((bT (bU (w++[45,45])) (.note (aE w))).map Item.toD))) _;rw[← fH];exact xZ z (Nat.le_trans (hV _ _) (Nat.le_trans hw1 (by decide)))
 refine⟨QL r w [45,45] (w++[45,45]) (c7++eB (w++[45,45]) (w++[45,45]).length++[(62,fU w [45,45])]) eo,dX (ds:=aF (nN w [45,45])) rfl,?_⟩
 unfold QL
 rw[eC]
 exact z.useX (hs:=[.cal 773 1 [] (.dat (.lst (aB dR))) [],.val 1259025031 (.dat (.int (Int.ofNat k))),.sub 1259012032 (.dat (.str w)),.val 1260031042 (.dat (.int 2)),.tst 1261024046 true,.cal 860 2 [] (.dat (aX (bI [60]))) [],.cal 860 2 [] (.dat (aX (bI [60,33]))) [],.cal 860 2 [] (.dat (aX (bI [60,33,45]))) [],.cal 874 2 [] (.dat (aX (iM []))) [],.stm 1265 .next (QL r w [45,45] (w++[45,45]) (c7++eB (w++[45,45]) (w++[45,45]).length) eo),.cal 867 1 [] (.dat (.lst (aB (bU (w++[45,45]))))) [],.cal 829 1 [] (.dat (.str (aE w))) [],.cal 839 1 [] (.dat (aX (fU w [45,45]))) []]) (g:=cg [(true,Nat.ble (dl (aF (c7++eB (w++[45,45]) (w++[45,45]).length))).length lim),(true,Nat.ble (w.length+2) lim),(true,!fX (.str w) [.str [],.str [45]]),(true,!Builtin.divisionGoesByPylong (Int.ofNat r) 10)]) (ob:=CallOk z.c 1 839 [.dat (.lst (aB (bU (w++[45,45])))),.dat (Item.note (aE w)).toD] [] (.dat (aX (fU w [45,45]))) []∧CallOk z.c 1 829 [.dat (.str w)] [] (.dat (.str (aE w))) []∧CallOk z.c 1 867 [.dat (.str (w++[45,45]))] [] (.dat (.lst (aB (bU (w++[45,45]))))) []∧RS z.c gL.names 3 ⟨0,[]⟩ (QL r w [45,45] (w++[45,45]) c7 []) mX.s .next (QL r w [45,45] (w++[45,45]) (c7++eB (w++[45,45]) (w++[45,45]).length) eo)∧CallOk z.c 2 874 [.dat (.str [])] [] (.dat (aX (iM []))) []∧CallOk z.c 2 860 [.dat (.str [60,33,45])] [] (.dat (aX (bI [60,33,45]))) []∧CallOk z.c 2 860 [.dat (.str [60,33])] [] (.dat (aX (bI [60,33]))) []∧CallOk z.c 2 860 [.dat (.str [60])] [] (.dat (aX (bI [60]))) []∧(V.dat (.int (Int.fmod (Int.fdiv (Int.ofNat r) 10) 3)):V)=.dat (.int 2)∧(∀ hp,bZ z.c 3 hp getItem z.c.VT (.dat (.lst (aB dR))) (.dat (.int (Int.ofNat k))) (.dat (.str w)) hp)∧(V.dat (.int (Int.fmod (Int.ofNat r) 10)):V)=.dat (.int (Int.ofNat k))∧CallOk z.c 1 773 [] [] (.dat (.lst (aB dR))) []∧True) (aA hX (aA hc (aA (by rw[hm];rfl) (aA hd aH)))) ⟨hT,iU z (Nat.le_trans hw (by decide)),mW z (Nat.le_trans hw1 (by decide)),hf,qI z (Nat.zero_le _),zR z,zQ z,qJ z,h2,hO,h1,pD z,trivial⟩ (by kernel_rfl)
theorem eD (r m:Nat):(V.dat (.int (Int.fmod (Int.ofNat r) (Int.ofNat m))):V)=.dat (.int (Int.ofNat (r%m))):=congrArg (fun i=>V.dat (.int i)) ((Int.fmod_eq_emod_of_nonneg (Int.ofNat r) (Int.natCast_nonneg m)).trans rfl)
theorem jG (r m:Nat):Int.fdiv (Int.ofNat r) (Int.ofNat m)=Int.ofNat (r/m):=(Int.fdiv_eq_ediv_of_nonneg (Int.ofNat r) (Int.natCast_nonneg m)).trans rfl
theorem qK:∀ r<5041,∀ m∈[2,3,4,8,9,10,32,36,64,128],Builtin.divisionGoesByPylong (Int.ofNat r) (Int.ofNat m)=false:=by decide+kernel
theorem Ak:∀ w∈dR,w.length≤800:=by decide+kernel
noncomputable def kT (r:Nat):Nm:=dR[r%10]?.getD []
noncomputable def mZ (r:Nat):List b9:=nN (kT r) (zO (kT r) (r/10%3))
theorem Al (hr:r<5041):CallOk z.c 4 881 [.dat (.int (Int.ofNat r))] [] (.dat (.lst (aF (mZ r)))) []:=by
 have lt:r%10<10:=Nat.mod_lt _ (by decide)
 have hk:dR[r%10]? =some (kT r):=by
  unfold kT
  cases e:dR[r%10]? with
  |none=>exact absurd (List.getElem?_eq_none_iff.mp e) (Nat.not_le.mpr lt)
  |some w=>rfl
 have hw:(kT r).length≤800:=Ak _ (List.mem_of_getElem? hk)
 have h1:=eD r 10
 have hd:(!Builtin.divisionGoesByPylong (Int.ofNat r) 10)=true:=by rw[show Builtin.divisionGoesByPylong (Int.ofNat r) 10=false from qK r hr 10 (by decide)];rfl
 have h2:(V.dat (.int (Int.fmod (Int.fdiv (Int.ofNat r) 10) 3)):V)=.dat (.int (Int.ofNat (r/10%3))):=by rw[show Int.fdiv (Int.ofNat r) 10=_ from jG r 10];exact eD _ 3
 have l3:r/10%3<3:=Nat.mod_lt _ (by decide)
 unfold mZ
 have iJ:∀ e,(∃ hp2,g9 2 hp2=some (.lst (aF (nN (kT r) e)))∧RX z.c gL.names 3 ⟨0,[]⟩ [.fr [(uG,.dat (.int (Int.ofNat r)))]] gL.body (.ret (.ref 2)) hp2)→CallOk z.c 4 881 [.dat (.int (Int.ofNat r))] [] (.dat (.lst (aF (nN (kT r) e)))) []:=fun e ⟨hp2,q,b⟩=>by
  have h3:CallOk z.c 4 881 [.dat (.int (Int.ofNat r))] [] (.ref 2) hp2:=iL (F:=gL) (by kernel_rfl) (by kernel_rfl) (by kernel_rfl) (by kernel_rfl) b
  exact dF h3 (EX q)
 have lc:∀ (w e:Nm),w.length≤800→e.length≤100→(w++e).length≤900:=fun w e a b=>by rw[List.length_append];exact Nat.add_le_add a b
 generalize kT r=w at *
 generalize r/10%3=b at *
 generalize r%10=k at *
 match b,l3,h2 with
 |0,_,h2=>
  obtain⟨eo,hf⟩:=pC z (r:=r) (w:=w) (e:=[45,45]) (f:=w++[45,45]) (lc _ _ hw (by decide))
  exact iJ _ (Ql z hk lt h1 h2 hd hw hf)
 |1,_,h2=>
  obtain⟨eo,hf⟩:=pC z (r:=r) (w:=w) (e:=[45,45,33]) (f:=w++[45,45,33]) (lc _ _ hw (by decide))
  exact iJ _ (Qm z hk lt h1 h2 hd hw hf)
 |2,_,h2=>
  show CallOk _ _ _ _ _ (.dat (.lst (aF (nN w (bif fX (.str w) [.str [],.str [45]]then []else [45,45]))))) _
  cases hm:fX (.str w) [.str [],.str [45]]with
  |true=>
   obtain⟨eo,hf⟩:=pC z (r:=r) (w:=w) (e:=[]) (f:=w++[]) (lc _ _ hw (by decide))
   exact iJ _ (Qn z hk lt h1 h2 hd hm hw hf)
  |false=>
   obtain⟨eo,hf⟩:=pC z (r:=r) (w:=w) (e:=[45,45]) (f:=w++[45,45]) (lc _ _ hw (by decide))
   exact iJ _ (Qo z hk lt h1 h2 hd hm hw hf)
end
end
section
noncomputable def dP:Nm:=[116,97,112,101]
noncomputable def bL (T:List Nat):List D:=T.map fun n=>.int (Int.ofNat n)
noncomputable def TE (row:List Item)(c:Nat):List Item:=bif nb [c] [0]then eU (row++[.error bY]) (.text [c])else eU row (.text [c])
noncomputable def Qp:List Item→Nm→List Item
 |row,[]=>row
 |row,c::r=>Qp (TE row c) r
noncomputable def nO (w:Nm):List Item:=Qp [] (dL [13] [10] 0 (dL [13,10] [10] 0 w))
noncomputable def gW:List Nm:=[[60,63,120,0,121,62],[60,33,120,45,100,62],[60,47,32,120,62],[60,62],[60,47,62],[60,49],[60,33,45,120,62],[60,33,62],[60,47,63,97,62],[60,33,100,111,120,65,62],[60,33,97,13,10,98,62]]
noncomputable def gO:List Nm:=[[112,108,97,105,110],[45,45,62],[32,93,93,62],[120,13,10,121],[9,121,13],[97,0,98]]
section
variable (z:c8){w:Nm}
theorem x0 {T:List Nat}(h:T.length≤1000):CallOk z.c 1 822 [.ref 0] [.lst (dl (bL T))] (.dat (.int (Int.ofNat (T.headD 0)))) [.lst (dl (bL T.tail))]:=by
 cases T with
 |nil=>exact z.use (hs:=[]) (o:=.fz [] []) (g:=true) rfl trivial (by kernel_rfl)
 |cons a T=>
  have hl:Nat.ble ((dl (bL T)).length+1) lim=true:=fI (m:=1000) (by rw[iT,bL,List.length_map];exact h) rfl
  have b:CallOk z.c 1 822 [.ref 0] [.lst (dl (bL (a::T)))] (.dat (.int (Int.ofNat a))) [.lst (dl (bL T)),.fr [(dP,.ref 0)]]:=by
   show CallOk z.c 1 822 [.ref 0] [.lst (.dat (.int (Int.ofNat a))::dl (bL T))] _ _
   generalize dl (bL T)=X at *
   exact z.useC (hs:=[]) (g:=cg [(true,Nat.ble (X.length+1) lim),(true,Nat.ble (X.length+1) lim)]) (aA hl (aA hl aH)) trivial (by kernel_rfl)
  refine dF b (?_ :g5 1 [] [] (.dat (.int (Int.ofNat a))) _=some (.dat (.int (Int.ofNat a)),[.lst (dl (bL T))]))
  have q:cL [0] [.lst (dl (bL T)),.fr [(dP,.ref 0)]]=true:=eM (cP _ _) rfl
  show(match true&&(true&&cL [0] _)with|true=>some (V.dat (.int (Int.ofNat a)),[O.lst ((dl (bL T)).map (V.ren _))])|false=>none)=_
  rw[q,cF];rfl
theorem m0 {e:Nm}{it:D}:CallOk z.c 1 839 [.ref 1,.dat it] [.fr [(cK,.dat (.str w))],.lst [.dat (.str e)]] (.dat (.lst (b8 [e] it))) [.fr [(cK,.dat (.str w))],.lst [.dat (.str e)]]:=
 eS (c:=z.c) (hp:=[.fr [(cK,.dat (.str w))],.lst [.dat (.str e)]]) (l:=1) (ds:=[it]) (X:=aB [e]) (Y:=aB [e]) rfl (iV z (Nat.le_of_ble_eq_true rfl))
theorem TF (h0:nb w [60,62]=true)(hb:Nat.ble w.length lim=true)(hc:∀ a b,Nat.ble (cut w a b).length lim=true)(hm:∀ a b,CallOk z.c 1 829 [.dat (.str (dL [62] [] 0 (cut w a b)))] [] (.dat (.str (aE (dL [62] [] 0 (cut w a b))))) []):CallOk z.c 2 860 [.dat (.str w)] [] (.dat (aX [.error cR,.text [60,62]])) []:=
 z.use (hs:=[.tst 1221007020 true]) (o:=.auto) (g:=cg [(true,nb w [60,62])]) (aA h0 aH) trivial (by kernel_rfl)
theorem TG (h0:nb w [60,62]=false)(h1:nb w [60,47]=true)(hb:Nat.ble w.length lim=true)(hc:∀ a b,Nat.ble (cut w a b).length lim=true)(hm:∀ a b,CallOk z.c 1 829 [.dat (.str (dL [62] [] 0 (cut w a b)))] [] (.dat (.str (aE (dL [62] [] 0 (cut w a b))))) []):CallOk z.c 2 860 [.dat (.str w)] [] (.dat (aX [.error dI,.text [60,47]])) []:=
 z.use (hs:=[.tst 1221007020 false,.tst 1223007020 true]) (o:=.auto) (g:=cg [(true,nb w [60,47]),(false,nb w [60,62])]) (aA h1 (aA h0 aH)) trivial (by kernel_rfl)
theorem TH (h0:nb w [60,62]=false)(h1:nb w [60,47]=false)(h2:nb w [60,47,62]=true)(hb:Nat.ble w.length lim=true)(hc:∀ a b,Nat.ble (cut w a b).length lim=true)(hm:∀ a b,CallOk z.c 1 829 [.dat (.str (dL [62] [] 0 (cut w a b)))] [] (.dat (.str (aE (dL [62] [] 0 (cut w a b))))) []):CallOk z.c 2 860 [.dat (.str w)] [] (.dat (aX [.error cI])) []:=
 z.use (hs:=[.tst 1221007020 false,.tst 1223007020 false,.tst 1225007021 true]) (o:=.auto) (g:=cg [(true,nb w [60,47,62]),(false,nb w [60,47]),(false,nb w [60,62])]) (aA h2 (aA h1 (aA h0 aH))) trivial (by kernel_rfl)
theorem TI (h0:nb w [60,62]=false)(h1:nb w [60,47]=false)(h2:nb w [60,47,62]=false)(h3:nb (cut w (some 1) (some 2)) [63]=true)(hb:Nat.ble w.length lim=true)(hc:∀ a b,Nat.ble (cut w a b).length lim=true)(hm:∀ a b,CallOk z.c 1 829 [.dat (.str (dL [62] [] 0 (cut w a b)))] [] (.dat (.str (aE (dL [62] [] 0 (cut w a b))))) []):CallOk z.c 2 860 [.dat (.str w)] [] (.dat (aX (bT [aP] (Item.note (aE (dL [62] [] 0 (cut w (some 1) none))))))) []:=
 z.use (hs:=[.tst 1221007020 false,.tst 1223007020 false,.tst 1225007021 false,.tst 1227007024 true,.cal 829 1 [] (.dat (.str (aE (dL [62] [] 0 (cut w (some 1) none))))) [],.cll 839 1 (.dat (.lst (b8 [aP] (Item.note (aE (dL [62] [] 0 (cut w (some 1) none)))).toD))) [.fr [(cK,.dat (.str w))],.lst [.dat (.str aP)]]]) (o:=.fz [] []) (g:=cg [(true,Nat.ble (cut w (some 1) none).length lim),(true,Nat.ble w.length lim),(true,nb (cut w (some 1) (some 2)) [63]),(true,Nat.ble w.length lim),(false,nb w [60,47,62]),(false,nb w [60,47]),(false,nb w [60,62])]) (ob:=CallOk z.c 1 839 [.ref 1,.dat (Item.note (aE (dL [62] [] 0 (cut w (some 1) none)))).toD] [.fr [(cK,.dat (.str w))],.lst [.dat (.str aP)]] (.dat (.lst (b8 [aP] (Item.note (aE (dL [62] [] 0 (cut w (some 1) none)))).toD))) [.fr [(cK,.dat (.str w))],.lst [.dat (.str aP)]]∧CallOk z.c 1 829 [.dat (.str (dL [62] [] 0 (cut w (some 1) none)))] [] (.dat (.str (aE (dL [62] [] 0 (cut w (some 1) none))))) []∧True) (aA (hc _ _) (aA hb (aA h3 (aA hb (aA h2 (aA h1 (aA h0 aH))))))) ⟨m0 z,hm _ _,trivial⟩ (by kernel_rfl)
theorem TJ (h0:nb w [60,62]=false)(h1:nb w [60,47]=false)(h2:nb w [60,47,62]=false)(h3:nb (cut w (some 1) (some 2)) [63]=false)(h4:nb (cut w (some 1) (some 2)) [33]=true)(hb:Nat.ble w.length lim=true)(hc:∀ a b,Nat.ble (cut w a b).length lim=true)(hm:∀ a b,CallOk z.c 1 829 [.dat (.str (dL [62] [] 0 (cut w a b)))] [] (.dat (.str (aE (dL [62] [] 0 (cut w a b))))) []):CallOk z.c 2 860 [.dat (.str w)] [] (.dat (aX (bT [bG] (Item.note (aE (dL [62] [] 0 (cut w (some 2) none))))))) []:=
 z.use (hs:=[.tst 1221007020 false,.tst 1223007020 false,.tst 1225007021 false,.tst 1227007024 false,.tst 1229007024 true,.cal 829 1 [] (.dat (.str (aE (dL [62] [] 0 (cut w (some 2) none))))) [],.cll 839 1 (.dat (.lst (b8 [bG] (Item.note (aE (dL [62] [] 0 (cut w (some 2) none)))).toD))) [.fr [(cK,.dat (.str w))],.lst [.dat (.str bG)]]]) (o:=.fz [] []) (g:=cg [(true,Nat.ble (cut w (some 2) none).length lim),(true,Nat.ble w.length lim),(true,nb (cut w (some 1) (some 2)) [33]),(true,Nat.ble w.length lim),(false,nb (cut w (some 1) (some 2)) [63]),(true,Nat.ble w.length lim),(false,nb w [60,47,62]),(false,nb w [60,47]),(false,nb w [60,62])]) (ob:=CallOk z.c 1 839 [.ref 1,.dat (Item.note (aE (dL [62] [] 0 (cut w (some 2) none)))).toD] [.fr [(cK,.dat (.str w))],.lst [.dat (.str bG)]] (.dat (.lst (b8 [bG] (Item.note (aE (dL [62] [] 0 (cut w (some 2) none)))).toD))) [.fr [(cK,.dat (.str w))],.lst [.dat (.str bG)]]∧CallOk z.c 1 829 [.dat (.str (dL [62] [] 0 (cut w (some 2) none)))] [] (.dat (.str (aE (dL [62] [] 0 (cut w (some 2) none))))) []∧True) (aA (hc _ _) (aA hb (aA h4 (aA hb (aA h3 (aA hb (aA h2 (aA h1 (aA h0 aH))))))))) ⟨m0 z,hm _ _,trivial⟩ (by kernel_rfl)
theorem TK (h0:nb w [60,62]=false)(h1:nb w [60,47]=false)(h2:nb w [60,47,62]=false)(h3:nb (cut w (some 1) (some 2)) [63]=false)(h4:nb (cut w (some 1) (some 2)) [33]=false)(h5:nb (cut w (some 1) (some 2)) [47]=true)(hb:Nat.ble w.length lim=true)(hc:∀ a b,Nat.ble (cut w a b).length lim=true)(hm:∀ a b,CallOk z.c 1 829 [.dat (.str (dL [62] [] 0 (cut w a b)))] [] (.dat (.str (aE (dL [62] [] 0 (cut w a b))))) []):CallOk z.c 2 860 [.dat (.str w)] [] (.dat (aX (bT [aR] (Item.note (aE (dL [62] [] 0 (cut w (some 2) none))))))) []:=
 z.use (hs:=[.tst 1221007020 false,.tst 1223007020 false,.tst 1225007021 false,.tst 1227007024 false,.tst 1229007024 false,.tst 1231007024 true,.cal 829 1 [] (.dat (.str (aE (dL [62] [] 0 (cut w (some 2) none))))) [],.cll 839 1 (.dat (.lst (b8 [aR] (Item.note (aE (dL [62] [] 0 (cut w (some 2) none)))).toD))) [.fr [(cK,.dat (.str w))],.lst [.dat (.str aR)]]]) (o:=.fz [] []) (g:=cg [(true,Nat.ble (cut w (some 2) none).length lim),(true,Nat.ble w.length lim),(true,nb (cut w (some 1) (some 2)) [47]),(true,Nat.ble w.length lim),(false,nb (cut w (some 1) (some 2)) [33]),(true,Nat.ble w.length lim),(false,nb (cut w (some 1) (some 2)) [63]),(true,Nat.ble w.length lim),(false,nb w [60,47,62]),(false,nb w [60,47]),(false,nb w [60,62])]) (ob:=CallOk z.c 1 839 [.ref 1,.dat (Item.note (aE (dL [62] [] 0 (cut w (some 2) none)))).toD] [.fr [(cK,.dat (.str w))],.lst [.dat (.str aR)]] (.dat (.lst (b8 [aR] (Item.note (aE (dL [62] [] 0 (cut w (some 2) none)))).toD))) [.fr [(cK,.dat (.str w))],.lst [.dat (.str aR)]]∧CallOk z.c 1 829 [.dat (.str (dL [62] [] 0 (cut w (some 2) none)))] [] (.dat (.str (aE (dL [62] [] 0 (cut w (some 2) none))))) []∧True) (aA (hc _ _) (aA hb (aA h5 (aA hb (aA h4 (aA hb (aA h3 (aA hb (aA h2 (aA h1 (aA h0 aH))))))))))) ⟨m0 z,hm _ _,trivial⟩ (by kernel_rfl)
theorem TM (h0:nb w [60,62]=false)(h1:nb w [60,47]=false)(h2:nb w [60,47,62]=false)(h3:nb (cut w (some 1) (some 2)) [63]=false)(h4:nb (cut w (some 1) (some 2)) [33]=false)(h5:nb (cut w (some 1) (some 2)) [47]=false)(hb:Nat.ble w.length lim=true)(hc:∀ a b,Nat.ble (cut w a b).length lim=true)(hm:∀ a b,CallOk z.c 1 829 [.dat (.str (dL [62] [] 0 (cut w a b)))] [] (.dat (.str (aE (dL [62] [] 0 (cut w a b))))) []):CallOk z.c 2 860 [.dat (.str w)] [] (.dat (aX (bT [cC] (Item.text w)))) []:=
 z.use (hs:=[.tst 1221007020 false,.tst 1223007020 false,.tst 1225007021 false,.tst 1227007024 false,.tst 1229007024 false,.tst 1231007024 false,.cll 839 1 (.dat (.lst (b8 [cC] (Item.text w).toD))) [.fr [(cK,.dat (.str w))],.lst [.dat (.str cC)]]]) (o:=.fz [] []) (g:=cg [(false,nb (cut w (some 1) (some 2)) [47]),(true,Nat.ble w.length lim),(false,nb (cut w (some 1) (some 2)) [33]),(true,Nat.ble w.length lim),(false,nb (cut w (some 1) (some 2)) [63]),(true,Nat.ble w.length lim),(false,nb w [60,47,62]),(false,nb w [60,47]),(false,nb w [60,62])]) (ob:=CallOk z.c 1 839 [.ref 1,.dat (Item.text w).toD] [.fr [(cK,.dat (.str w))],.lst [.dat (.str cC)]] (.dat (.lst (b8 [cC] (Item.text w).toD))) [.fr [(cK,.dat (.str w))],.lst [.dat (.str cC)]]∧True) (aA h5 (aA hb (aA h4 (aA hb (aA h3 (aA hb (aA h2 (aA h1 (aA h0 aH))))))))) ⟨m0 z,trivial⟩ (by kernel_rfl)
theorem KF (hw:w.length≤1000):CallOk z.c 2 860 [.dat (.str w)] [] (.dat (aX (bI w))) []:=by
 have hb:Nat.ble w.length lim=true:=lb hw rfl
 have hc:∀ a b,Nat.ble (cut w a b).length lim=true:=fun a b=>lb (Nat.le_trans (hI _ _ _) hw) rfl
 have hm:∀ a b,CallOk z.c 1 829 [.dat (.str (dL [62] [] 0 (cut w a b)))] [] (.dat (.str (aE (dL [62] [] 0 (cut w a b))))) []:=fun a b=>iU z (Nat.le_trans (hF (by simp) (by simp) _ _ (Nat.le_refl _)) (Nat.le_trans (hI _ _ _) (Nat.le_trans hw (by decide))))
 unfold bI
 cases h0:nb w [60,62]with
 |true=>exact TF z h0 hb hc hm
 |false=>
  cases h1:nb w [60,47]with
  |true=>exact TG z h0 h1 hb hc hm
  |false=>
   cases h2:nb w [60,47,62]with
   |true=>exact TH z h0 h1 h2 hb hc hm
   |false=>
    cases h3:nb (cut w (some 1) (some 2)) [63]with
    |true=>exact TI z h0 h1 h2 h3 hb hc hm
    |false=>
     cases h4:nb (cut w (some 1) (some 2)) [33]with
     |true=>exact TJ z h0 h1 h2 h3 h4 hb hc hm
     |false=>
      cases h5:nb (cut w (some 1) (some 2)) [47]with
      |true=>exact TK z h0 h1 h2 h3 h4 h5 hb hc hm
      |false=>exact TM z h0 h1 h2 h3 h4 h5 hb hc hm
noncomputable def TN:List Nm:=[[112],[112,108],[112,108,97],[112,108,97,105],[112,108,97,105,110],[45],[45,45],[45,45,62],[32],[32,93],[32,93,93],[32,93,93,62],[120],[120,13],[120,13,10],[120,13,10,121],[9],[9,121],[9,121,13],[97],[97,0],[97,0,98]]
theorem Qq:AllP (fun w=>CallOk z.c 4 853 [.dat (.str w)] [] (.dat (aX (nO w))) []) TN:=⟨z.use (hs:=[]) (o:=.auto) (g:=true) rfl trivial (by kernel_rfl),z.use (hs:=[]) (o:=.auto) (g:=true) rfl trivial (by kernel_rfl),z.use (hs:=[]) (o:=.auto) (g:=true) rfl trivial (by kernel_rfl),z.use (hs:=[]) (o:=.auto) (g:=true) rfl trivial (by kernel_rfl),z.use (hs:=[]) (o:=.auto) (g:=true) rfl trivial (by kernel_rfl),z.use (hs:=[]) (o:=.auto) (g:=true) rfl trivial (by kernel_rfl),z.use (hs:=[]) (o:=.auto) (g:=true) rfl trivial (by kernel_rfl),z.use (hs:=[]) (o:=.auto) (g:=true) rfl trivial (by kernel_rfl),z.use (hs:=[]) (o:=.auto) (g:=true) rfl trivial (by kernel_rfl),z.use (hs:=[]) (o:=.auto) (g:=true) rfl trivial (by kernel_rfl),z.use (hs:=[]) (o:=.auto) (g:=true) rfl trivial (by kernel_rfl),z.use (hs:=[]) (o:=.auto) (g:=true) rfl trivial (by kernel_rfl),z.use (hs:=[]) (o:=.auto) (g:=true) rfl trivial (by kernel_rfl),z.use (hs:=[]) (o:=.auto) (g:=true) rfl trivial (by kernel_rfl),z.use (hs:=[]) (o:=.auto) (g:=true) rfl trivial (by kernel_rfl),z.use (hs:=[]) (o:=.auto) (g:=true) rfl trivial (by kernel_rfl),z.use (hs:=[]) (o:=.auto) (g:=true) rfl trivial (by kernel_rfl),z.use (hs:=[]) (o:=.auto) (g:=true) rfl trivial (by kernel_rfl),z.use (hs:=[]) (o:=.auto) (g:=true) rfl trivial (by kernel_rfl),z.use (hs:=[]) (o:=.auto) (g:=true) rfl trivial (by kernel_rfl),z.use (hs:=[]) (o:=.auto) (g:=true) rfl trivial (by kernel_rfl),z.use (hs:=[]) (o:=.auto) (g:=true) rfl trivial (by kernel_rfl),trivial⟩
theorem IW (h:w∈TN):CallOk z.c 4 853 [.dat (.str w)] [] (.dat (aX (nO w))) []:=(Qq z).at h
end
end
section
noncomputable def dJ:Nm:=[115,99,114,105,112,116]
noncomputable def m1:Nm:=[115,116,97,114,116]
noncomputable def iE:Nm:=[112,105,101,99,101,115]
noncomputable def kC:Nm:=[110]
noncomputable def bM:Nm:=[115,105,103,110]
noncomputable def Rx:Nm:=[95]
section
variable {p:Program}{G:Gam}{tl:List (Nat×Fn)}(z:Zc p G tl)
noncomputable def Zc.runG (n:Nat)(sc:aU)(F:Fx)(r:Expr)(v:V)(hp:List O)(hs:List Hi):Option (An Unit):=bd (z.ev.g sc n F r v ⟨hp,hs,true,True⟩) fun a=>gd (qB a.s.hs) fun _=>some ⟨a.v,a.s.hp,a.s.g,a.s.ob⟩
theorem Zc.useG {z:Zc p G tl}{n:Nat}{sc:aU}{F:Fx}{hp hp':List O}{hs:List Hi}{g:Bool}{ob:Prop}(hg:g=true)(ho:ob){r:Expr}{v:V}(e:z.runG n sc F r v hp hs=some ⟨(),hp',g,ob⟩):RG z.c sc n F hp r v hp':=by
 obtain⟨a,e1,e⟩:=gU e
 obtain⟨_,e⟩:=lS e
 cases e
 exact(a.ok ⟨hg,ho⟩).2
end
noncomputable def cH:Fn:=kL k8 [44] []
noncomputable def iF:WhlI:=Li (nW cH.body 3)
noncomputable def UY:Stmt→Expr
 |.Assign _ r _=>r
 |_=>.Constant .none 0 uX
noncomputable def TO:Stmt→Expr
 |.AugAssign _ _ r _=>r
 |_=>.Constant .none 0 uX
noncomputable def TP:Expr→Expr
 |.Call _ [a] _ _=>a
 |e=>e
noncomputable def UZ:List Stmt:=TA (nW iF.b 1)
noncomputable def Tx:List Stmt:=TA (nW UZ 0)
noncomputable def TQ:List Stmt:=Tv (nW Tx 0)
noncomputable def TR:List Stmt:=TA (nW Tx 0)
structure AsgI where
 y:Str
 px:Pos
 c:ComI
 p:Pos
noncomputable def Mf:Stmt→AsgI
 |.Assign [.Name y px] r p=>⟨y,px,DM r,p⟩
 |_=>⟨⟨#[]⟩,uX,DM (.Constant .none 0 uX),uX⟩
noncomputable def AsgI.s (f:AsgI):Stmt:=.Assign [.Name f.y f.px] f.c.r f.p
noncomputable def qL:AsgI:=Mf (nW TQ 1)
noncomputable def qM:AsgI:=Mf (nW TR 1)
noncomputable def uH:ComI:=qL.c
noncomputable def uI:ComI:=qM.c
noncomputable def uJ:ComI:=DM (TP (TO (nW iF.b 3)))
noncomputable def FL:Fx:=⟨0,[(cK,1)]⟩
noncomputable def gP (p:Nm→List Item)(f:Nm):Nat→List b9
 |0=>[]
 |k+1=>gP p f k++(match f[k]? with|some a=>[(a,p (cut f none (some (Int.ofNat (k+1)))))] |none=>[])
noncomputable def fM (p:Nm→List Item)(w:Nm):List b9:=gP p w w.length
theorem nP (p:Nm→List Item)(f:Nm):∀ k,(gP p f k).length≤k
 |0=>Nat.le_refl _
 |k+1=>by
  show(gP p f k++_).length≤_
  rw[List.length_append]
  refine Nat.add_le_add (nP p f k) ?_
  cases f[k]? <;>simp
noncomputable abbrev LW (sD s0:D)(t:Nm)(fo:List (Nm×V))(cw:Option V)(T:List Nat)(P:List D):List O:=
 [.fr ([(dJ,.dat sD),(dP,.ref 2),(m1,.dat s0),(cN,.dat (.str t)),(iE,.ref 3)]++fo),.cel cw,.lst (dl (bL T)),.lst (dl P)]
noncomputable abbrev oG (n:Nat)(x:Option V):List (Nm×V):=match x with
 |none=>[(kC,.dat (.int (Int.ofNat n)))]
 |some v=>[(kC,.dat (.int (Int.ofNat n))),(aV,v)]
section
variable (z:c8){sD s0:D}{t w:Nm}{n:Nat}{x:Option V}{T:List Nat}{P:List D}{p:Nm→List Item}
noncomputable abbrev WX (sD s0:D)(t:Nm)(n:Nat)(x:Option V)(w:Nm)(T:List Nat)(P:List D)(es:List b9)(eo:List (Nm×V)):List O:=LW sD s0 t (oG n x) (some (.dat (.str w))) T P++[.lst (dl (aF es)),.fr eo]
noncomputable abbrev oK (k:Nat):List (Nm×V):=[(Rw,.dat (.int (Int.ofNat k)))]
noncomputable def sM (sD s0:D)(t:Nm)(n:Nat)(x:Option V)(w:Nm)(T:List Nat)(P:List D)(p:Nm→List Item)(k:Nat)(hp:List O):Prop:=∃ eo,(eo=[]∨∃ v,eo=[(Rw,v)])∧hp=WX sD s0 t n x w T P (gP p w k) eo
theorem Ei (hw:w.length≤100)(H:∀ k<w.length,CallOk z.c 2 860 [.dat (.str (cut w none (some (Int.ofNat (k+1)))))] [] (.dat (aX (p (cut w none (some (Int.ofNat (k+1))))))) [])(k:Nat)(y:V)(hp:List O)(hk:(fN 0 w.length 0)[k]? =some y)(q:sM sD s0 t n x w T P p k hp):
  ∃ hp1 hp2 xs v,RG z.c (fQ cH.names uH.s.names) 17 ⟨5,eX FL.cs (cW uH.s.names)⟩ hp uH.t y hp1∧RE z.c (fQ cH.names uH.s.names) 17 ⟨5,eX FL.cs (cW uH.s.names)⟩ hp1 uH.e v hp2∧hp2[4]?.bind O.lstE=some xs∧Nat.ble xs.length lim=true∧sM sD s0 t n x w T P p (k+1) (hp2.set 4 (.lst (xs++[v]))):=by
 obtain⟨eo,he,rfl⟩:=q
 rw[uF]at hk
 by_cases lt:k<w.length
 ·rw[if_pos lt]at hk
  cases hk
  have ha:=List.getElem?_eq_getElem lt
  have h1:=H k lt
  have hl:Nat.ble (dl (aF (gP p w k))).length lim=true:=fI (m:=1000) (by rw[cG];have:=nP p w k;omega) rfl
  have hO:∀ hp,bZ z.c 17 hp getItem z.c.VT (.dat (.str w)) (.dat (.int (Int.ofNat k))) (.dat (.str [w[k]])) hp:=fun hp=>jU (sL ha) (fI (m:=100) (Nat.le_trans (Nat.le_of_lt lt) hw) rfl)
  refine⟨WX sD s0 t n x w T P (gP p w k) (oK k),WX sD s0 t n x w T P (gP p w k) (oK k),dl (aF (gP p w k)),.dat (oF (w[k],p (cut w none (some (Int.ofNat (k+1)))))),?_,?_,rfl,hl,oK k,.inr ⟨_,rfl⟩,?_⟩
  ·rcases he with rfl|⟨v,rfl⟩
   ·exact cM (by kernel_rfl) (by kernel_rfl)
   ·exact cM (by kernel_rfl) (by kernel_rfl)
  ·generalize w[k]=a at *
   generalize gP p w k=es at *
   exact z.useE (hs:=[.sub 1364022030 (.dat (.str [a])),.cal 860 2 [] (.dat (aX (p (cut w none (some (Int.ofNat (k+1))))))) []]) (g:=cg [(true,Nat.ble w.length lim)]) (aA (lb hw rfl) aH) (an h1 (an hO trivial)) (by kernel_rfl)
  ·show _=WX sD s0 t n x w T P (gP p w k++(match w[k]? with|some a=>[(a,p (cut w none (some (Int.ofNat (k+1)))))] |none=>[])) _
   rw[ha]
   unfold WX
   rw[eC];rfl
 ·rw[if_neg lt]at hk;cases hk
theorem IX (hw:w.length≤100)(H:∀ k<w.length,CallOk z.c 2 860 [.dat (.str (cut w none (some (Int.ofNat (k+1)))))] [] (.dat (aX (p (cut w none (some (Int.ofNat (k+1))))))) []):RS z.c cH.names 17 FL (LW sD s0 t (oG n x) (some (.dat (.str w))) T P) qL.s .next (LW sD s0 t (oG n (some (.ref 4))) (some (.dat (.str w))) T P++[.lst (dl (aF (fM p w))),.gone]):=by
 have h1:RE z.c cH.names 17 FL (LW sD s0 t (oG n x) (some (.dat (.str w))) T P) uH.i (.rng 0 (Int.ofNat w.length)) (LW sD s0 t (oG n x) (some (.dat (.str w))) T P):=z.useE (hs:=[]) (g:=cg [(true,Nat.ble w.length lim)]) (aA (lb hw rfl) aH) trivial (by kernel_rfl)
 obtain⟨hp',q,eo,he,rfl⟩:=jS (v:=.rng 0 (Int.ofNat w.length)) (all:=fN 0 w.length 0) (sM sD s0 t n x w T P p) (fun k hp _=>by show some (fN 0 (gT 0 (Int.ofNat w.length)) 0)=_;rw[show gT 0 (Int.ofNat w.length)=w.length by unfold gT;rw[Int.sub_zero];rfl]) (Ei z hw H) (fN 0 w.length 0).length 0 (WX sD s0 t n x w T P [] []) (Nat.zero_add _) ⟨[],.inl rfl,rfl⟩
 rw[jT]at q
 cases x with
 |none=>exact nI (y:=qL.y) (px:=qL.px) (spos:=qL.p) (pos:=uH.p) (hp3:=WX sD s0 t n (some (.ref 4)) w T P (fM p w) eo) (fR (by kernel_rfl)) h1 (lb (n:=100) hw rfl) rfl q (by kernel_rfl) (by kernel_rfl) (by kernel_rfl) rfl
 |some v=>exact nI (y:=qL.y) (px:=qL.px) (spos:=qL.p) (pos:=uH.p) (hp3:=WX sD s0 t n (some (.ref 4)) w T P (fM p w) eo) (fR (by kernel_rfl)) h1 (lb (n:=100) hw rfl) rfl q (by kernel_rfl) (by kernel_rfl) (by kernel_rfl) rfl
theorem Ej (hw:w.length≤100)(H:∀ k<w.length,CallOk z.c 4 853 [.dat (.str (cut w none (some (Int.ofNat (k+1)))))] [] (.dat (aX (p (cut w none (some (Int.ofNat (k+1))))))) [])(k:Nat)(y:V)(hp:List O)(hk:(fN 0 w.length 0)[k]? =some y)(q:sM sD s0 t n x w T P p k hp):
  ∃ hp1 hp2 xs v,RG z.c (fQ cH.names uI.s.names) 17 ⟨5,eX FL.cs (cW uI.s.names)⟩ hp uI.t y hp1∧RE z.c (fQ cH.names uI.s.names) 17 ⟨5,eX FL.cs (cW uI.s.names)⟩ hp1 uI.e v hp2∧hp2[4]?.bind O.lstE=some xs∧Nat.ble xs.length lim=true∧sM sD s0 t n x w T P p (k+1) (hp2.set 4 (.lst (xs++[v]))):=by
 obtain⟨eo,he,rfl⟩:=q
 rw[uF]at hk
 by_cases lt:k<w.length
 ·rw[if_pos lt]at hk
  cases hk
  have ha:=List.getElem?_eq_getElem lt
  have h1:=H k lt
  have hl:Nat.ble (dl (aF (gP p w k))).length lim=true:=fI (m:=1000) (by rw[cG];have:=nP p w k;omega) rfl
  have hO:∀ hp,bZ z.c 17 hp getItem z.c.VT (.dat (.str w)) (.dat (.int (Int.ofNat k))) (.dat (.str [w[k]])) hp:=fun hp=>jU (sL ha) (fI (m:=100) (Nat.le_trans (Nat.le_of_lt lt) hw) rfl)
  refine⟨WX sD s0 t n x w T P (gP p w k) (oK k),WX sD s0 t n x w T P (gP p w k) (oK k),dl (aF (gP p w k)),.dat (oF (w[k],p (cut w none (some (Int.ofNat (k+1)))))),?_,?_,rfl,hl,oK k,.inr ⟨_,rfl⟩,?_⟩
  ·rcases he with rfl|⟨v,rfl⟩
   ·exact cM (by kernel_rfl) (by kernel_rfl)
   ·exact cM (by kernel_rfl) (by kernel_rfl)
  ·generalize w[k]=a at *
   generalize gP p w k=es at *
   exact z.useE (hs:=[.sub 1367022030 (.dat (.str [a])),.cal 853 4 [] (.dat (aX (p (cut w none (some (Int.ofNat (k+1))))))) []]) (g:=cg [(true,Nat.ble w.length lim)]) (aA (lb hw rfl) aH) (an h1 (an hO trivial)) (by kernel_rfl)
  ·show _=WX sD s0 t n x w T P (gP p w k++(match w[k]? with|some a=>[(a,p (cut w none (some (Int.ofNat (k+1)))))] |none=>[])) _
   rw[ha]
   unfold WX
   rw[eC];rfl
 ·rw[if_neg lt]at hk;cases hk
theorem IY (hw:w.length≤100)(H:∀ k<w.length,CallOk z.c 4 853 [.dat (.str (cut w none (some (Int.ofNat (k+1)))))] [] (.dat (aX (p (cut w none (some (Int.ofNat (k+1))))))) []):RS z.c cH.names 17 FL (LW sD s0 t (oG n x) (some (.dat (.str w))) T P) qM.s .next (LW sD s0 t (oG n (some (.ref 4))) (some (.dat (.str w))) T P++[.lst (dl (aF (fM p w))),.gone]):=by
 have h1:RE z.c cH.names 17 FL (LW sD s0 t (oG n x) (some (.dat (.str w))) T P) uI.i (.rng 0 (Int.ofNat w.length)) (LW sD s0 t (oG n x) (some (.dat (.str w))) T P):=z.useE (hs:=[]) (g:=cg [(true,Nat.ble w.length lim)]) (aA (lb hw rfl) aH) trivial (by kernel_rfl)
 obtain⟨hp',q,eo,he,rfl⟩:=jS (v:=.rng 0 (Int.ofNat w.length)) (all:=fN 0 w.length 0) (sM sD s0 t n x w T P p) (fun k hp _=>by show some (fN 0 (gT 0 (Int.ofNat w.length)) 0)=_;rw[show gT 0 (Int.ofNat w.length)=w.length by unfold gT;rw[Int.sub_zero];rfl]) (Ej z hw H) (fN 0 w.length 0).length 0 (WX sD s0 t n x w T P [] []) (Nat.zero_add _) ⟨[],.inl rfl,rfl⟩
 rw[jT]at q
 cases x with
 |none=>exact nI (y:=qM.y) (px:=qM.px) (spos:=qM.p) (pos:=uI.p) (hp3:=WX sD s0 t n (some (.ref 4)) w T P (fM p w) eo) (fR (by kernel_rfl)) h1 (lb (n:=100) hw rfl) rfl q (by kernel_rfl) (by kernel_rfl) (by kernel_rfl) rfl
 |some v=>exact nI (y:=qM.y) (px:=qM.px) (spos:=qM.p) (pos:=uI.p) (hp3:=WX sD s0 t n (some (.ref 4)) w T P (fM p w) eo) (fR (by kernel_rfl)) h1 (lb (n:=100) hw rfl) rfl q (by kernel_rfl) (by kernel_rfl) (by kernel_rfl) rfl
noncomputable def fA (es:List b9):Nm:=es.map (·.1)
noncomputable abbrev wD (es:List b9):List D:=aB (es.map fun e=>[e.1])
theorem IZ (es:List b9)(a:b9):dl (wD (es++[a]))=dl (wD es)++[.dat (.str [a.1])]:=by unfold wD;rw[List.map_append];exact cQ _ _
noncomputable abbrev LP (sD s0:D)(t:Nm)(n:Nat)(es:List b9)(cw:Option V)(T:List Nat)(P:List D):List O:=LW sD s0 t (oG n (some (.dat (.lst (aF es))))) cw T P
noncomputable def Mg (sD s0:D)(t:Nm)(n:Nat)(es:List b9)(cw:Option V)(T:List Nat)(P:List D)(k:Nat)(hp:List O):Prop:=∃ eo,(eo=[]∨∃ a b,eo=[(bM,a),(Rx,b)])∧hp=LP sD s0 t n es cw T P++[.lst (dl (wD (es.take k))),.fr eo]
theorem Ek {es:List b9}{cw:Option V}(hl:es.length≤1000)(k:Nat)(y:V)(hp:List O)(hk:(dl (aF es))[k]? =some y)(q:Mg sD s0 t n es cw T P k hp):
  ∃ hp1 hp2 xs v,RG z.c (fQ cH.names uJ.s.names) 17 ⟨5,eX FL.cs (cW uJ.s.names)⟩ hp uJ.t y hp1∧RE z.c (fQ cH.names uJ.s.names) 17 ⟨5,eX FL.cs (cW uJ.s.names)⟩ hp1 uJ.e v hp2∧hp2[4]?.bind O.lstE=some xs∧Nat.ble xs.length lim=true∧Mg sD s0 t n es cw T P (k+1) (hp2.set 4 (.lst (xs++[v]))):=by
 obtain⟨eo,he,rfl⟩:=q
 rw[sH,aF,List.getElem?_map]at hk
 cases ha:es[k]? with
 |none=>rw[ha]at hk;cases hk
 |some a=>
  rw[ha]at hk
  cases hk
  have hL:Nat.ble (dl (wD (es.take k))).length lim=true:=fI (m:=1000) (by rw[cY,List.length_map];exact Nat.le_trans (List.length_take_le' ..) hl) rfl
  refine⟨LP sD s0 t n es cw T P++[.lst (dl (wD (es.take k))),.fr [(bM,.dat (.str [a.1])),(Rx,.dat (aX a.2))]],_,dl (wD (es.take k)),.dat (.str [a.1]),?_,z.useE (hp':=LP sD s0 t n es cw T P++[.lst (dl (wD (es.take k))),.fr [(bM,.dat (.str [a.1])),(Rx,.dat (aX a.2))]]) (hs:=[]) (g:=true) rfl trivial (by kernel_rfl),rfl,hL,[(bM,.dat (.str [a.1])),(Rx,.dat (aX a.2))],.inr ⟨_,_,rfl⟩,?_⟩
  ·rcases he with rfl|⟨v,u,rfl⟩
   ·exact Zc.useG (hs:=[]) (g:=true) rfl trivial (by kernel_rfl)
   ·exact Zc.useG (hs:=[]) (g:=true) rfl trivial (by kernel_rfl)
  ·rw[lC ha,IZ];rfl
theorem Ia {es:List b9}{cw:Option V}(hl:es.length≤1000):RE z.c cH.names 17 FL (LP sD s0 t n es cw T P) uJ.r (.ref 4) (LP sD s0 t n es cw T P++[.lst (dl (wD es)),.gone]):=by
 have h1:RE z.c cH.names 17 FL (LP sD s0 t n es cw T P) uJ.i (.dat (.lst (aF es))) (LP sD s0 t n es cw T P):=z.useE (hs:=[]) (g:=true) rfl trivial (by kernel_rfl)
 obtain⟨hp',q,eo,he,rfl⟩:=jS (v:=.dat (.lst (aF es))) (all:=dl (aF es)) (Mg sD s0 t n es cw T P) (fun k hp _=>rfl) (Ek z hl) (dl (aF es)).length 0 (LP sD s0 t n es cw T P++[.lst [],.fr []]) (Nat.zero_add _) ⟨[],.inl rfl,rfl⟩
 rw[cG,List.take_length]at q
 exact mJ (fR (by kernel_rfl)) h1 rfl rfl q rfl
theorem Ib (T:List Nm):f9 (dl (aB T))=some T:=by
 induction T with
 |nil=>rfl
 |cons a T ih=>show(f9 (dl (aB T))).map _=_;rw[ih];rfl
theorem qN:∀ es:List b9,(es.map fun e=>[e.1]).flatten=fA es
 | []=>rfl
 |e::r=>congrArg (e.1::·) (qN r)
end
end
section
noncomputable abbrev LQ (sD s0:D)(t:Nm)(n:Nat)(v:V)(cw:Option V)(X Y:List V):List O:=
 [.fr [(dJ,.dat sD),(dP,.ref 2),(m1,.dat s0),(cN,.dat (.str t)),(iE,.ref 3),(kC,.dat (.int (Int.ofNat n))),(aV,v)],.cel cw,.lst X,.lst Y]
section
variable (z:c8){sD s0:D}{t w:Nm}{n m:Nat}{x:Option V}{cw:Option V}{T:List Nat}{P:List D}{es:List b9}
noncomputable abbrev s4:List Nat:=[0,1,2,3]
theorem Mh (hc:cw=none∨∃ d,cw=some (.dat d))(J:List O):Gc 4 (LP sD s0 t n es cw T P++J) (LP sD s0 t n es cw T P):=by
 have a0:=cP (cA s4) (bL T)
 have b0:=cP (cA s4) P
 have a1:=cF (kr s4) (bL T)
 have b1:=cF (kr s4) P
 show Gc 4 (LQ sD s0 t n (.dat (.lst (aF es))) cw (dl (bL T)) (dl P)++J) (LQ sD s0 t n (.dat (.lst (aF es))) cw (dl (bL T)) (dl P))
 generalize dl (bL T)=X at *
 generalize dl P=Y at *
 have e1:cL s4 (LQ sD s0 t n (.dat (.lst (aF es))) cw X Y++J)=(X.all (V.cl (cA s4))&&(Y.all (V.cl (cA s4))&&true)):=by rcases hc with rfl|⟨d,rfl⟩<;>kernel_rfl
 have e2:kept s4 (LQ sD s0 t n (.dat (.lst (aF es))) cw X Y++J)=LQ sD s0 t n (.dat (.lst (aF es))) cw (X.map (V.ren (kr s4))) (Y.map (V.ren (kr s4))):=by rcases hc with rfl|⟨d,rfl⟩<;>kernel_rfl
 exact mR (τ:=[]) (by kernel_rfl) (e1.trans (by rw[a0,b0];rfl)) (e2.trans (by rw[a1,b1]))
theorem m3 {d:D}:Gc 4 (LW sD s0 t (oG n (some (.ref 4))) (some (.dat d)) T P++[.lst (dl (aF es)),.gone]) (LP sD s0 t n es (some (.dat d)) T P):=by
 have a0:=cP (cA s4) (bL T)
 have b0:=cP (cA s4) P
 have a1:=cF (kr s4) (bL T)
 have b1:=cF (kr s4) P
 have a2:=sG (sb 4 (.lst (aF es))) id (bL T)
 have b2:=sG (sb 4 (.lst (aF es))) id P
 have f:g9 4 (LQ sD s0 t n (.ref 4) (some (.dat d)) (dl (bL T)) (dl P)++[.lst (dl (aF es)),.gone])=some (.lst (aF es)):=dX rfl
 show Gc 4 (LQ sD s0 t n (.ref 4) (some (.dat d)) (dl (bL T)) (dl P)++[.lst (dl (aF es)),.gone]) (LQ sD s0 t n (.dat (.lst (aF es))) (some (.dat d)) (dl (bL T)) (dl P))
 refine .fold (fz:=[4]) (τ:=[]) (v:=.dat .non) ?_
 show((g9 4 _).bind _).bind _=_
 rw[f]
 generalize dl (bL T)=X at *
 generalize dl P=Y at *
 generalize dl (aF es)=E at *
 generalize aF es=es at *
 have e2:((LQ sD s0 t n (.ref 4) (some (.dat d)) X Y++[O.gone,O.gone]).map (O.mp (sb 4 (.lst es)) id))=LQ sD s0 t n (.dat (.lst es)) (some (.dat d)) (X.map (V.mp (sb 4 (.lst es)) id)) (Y.map (V.mp (sb 4 (.lst es)) id))++[O.gone,O.gone]:=by kernel_rfl
 rw[a2,b2]at e2
 show rN 4 [] (.dat .non) ((LQ sD s0 t n (.ref 4) (some (.dat d)) X Y++[O.gone,O.gone]).map (O.mp (sb 4 (.lst es)) id))=_
 rw[e2]
 have e3:cL s4 (LQ sD s0 t n (.dat (.lst es)) (some (.dat d)) X Y++[O.gone,O.gone])=(X.all (V.cl (cA s4))&&(Y.all (V.cl (cA s4))&&true)):=by kernel_rfl
 rw[a0,b0]at e3
 have e4:kept s4 (LQ sD s0 t n (.dat (.lst es)) (some (.dat d)) X Y++[O.gone,O.gone])=LQ sD s0 t n (.dat (.lst es)) (some (.dat d)) (X.map (V.ren (kr s4))) (Y.map (V.ren (kr s4))):=by kernel_rfl
 rw[a1,b1]at e4
 show(match true&&(true&&cL s4 (LQ sD s0 t n (.dat (.lst es)) (some (.dat d)) X Y++[O.gone,O.gone]))with|true=>some (V.dat .non,kept s4 (LQ sD s0 t n (.dat (.lst es)) (some (.dat d)) X Y++[O.gone,O.gone]))|false=>none)=_
 rw[e3,e4];rfl
theorem Mi (hc:cw=none∨∃ d,cw=some (.dat d))(he:es.length≤1000)(ht:t.length≤1000)(hP:P.length≤1000):RX z.c cH.names 17 FL (LP sD s0 t m es cw T P) (iF.b.drop 2) .next (LP sD s0 (t++fA es) m es cw T (P++[.lst (aF es)])):=by
 have hj:=Ia z (sD:=sD) (s0:=s0) (t:=t) (n:=m) (T:=T) (P:=P++[.lst (aF es)]) (cw:=cw) he
 have hm:yT z.c 17 (LP sD s0 t m es cw T (P++[.lst (aF es)])++[.lst (dl (wD es)),.gone]) (.str [] .join) [.ref 4] (.dat (.str (es.map fun e=>[e.1]).flatten)) (LP sD s0 t m es cw T (P++[.lst (aF es)])++[.lst (dl (wD es)),.gone]):=
  oU rfl (Ib _) (fI (m:=1000) (by rw[qN,fA,List.length_map];exact he) rfl)
 rw[qN]at hm
 have hl:Nat.ble (dl P).length lim=true:=fI (m:=1000) (by rw[iT];exact hP) rfl
 have ha:Nat.ble (t.length+(fA es).length) lim=true:=fI (m:=2000) (by rw[fA,List.length_map];exact Nat.add_le_add ht he) rfl
 refine mT (hp1:=LP sD s0 (t++fA es) m es cw T (P++[.lst (aF es)])++[.lst (dl (wD es)),.gone]) ?_ (Mh hc _)
 have ea:dl (P++[.lst (aF es)])=dl P++[.dat (.lst (aF es))]:=kS _ _
 change RE z.c cH.names 17 FL (LQ sD s0 t m (.dat (.lst (aF es))) cw (dl (bL T)) (dl (P++[.lst (aF es)]))) uJ.r (.ref 4) (LQ sD s0 t m (.dat (.lst (aF es))) cw (dl (bL T)) (dl (P++[.lst (aF es)]))++[.lst (dl (wD es)),.gone])at hj
 change yT z.c 17 (LQ sD s0 t m (.dat (.lst (aF es))) cw (dl (bL T)) (dl (P++[.lst (aF es)]))++[.lst (dl (wD es)),.gone]) (.str [] .join) [.ref 4] (.dat (.str (fA es))) (LQ sD s0 t m (.dat (.lst (aF es))) cw (dl (bL T)) (dl (P++[.lst (aF es)]))++[.lst (dl (wD es)),.gone])at hm
 show RX z.c cH.names 17 FL (LQ sD s0 t m (.dat (.lst (aF es))) cw (dl (bL T)) (dl P)) (iF.b.drop 2) .next (LQ sD s0 (t++fA es) m (.dat (.lst (aF es))) cw (dl (bL T)) (dl (P++[.lst (aF es)]))++[.lst (dl (wD es)),.gone])
 rw[ea]at hj hm ⊢
 generalize dl P=Y at *
 generalize dl (wD es)=G at *
 generalize dl (bL T)=X at *
 generalize fA es=g at *
 generalize aF es=E at *
 exact z.useX (hs:=[.exp 1369024051 (.ref 4) (LQ sD s0 t m (.dat (.lst E)) cw X (Y++[.dat (.lst E)])++[.lst G,.gone]),.bm (.dat (.str g)) (LQ sD s0 t m (.dat (.lst E)) cw X (Y++[.dat (.lst E)])++[.lst G,.gone])]) (g:=cg [(true,Nat.ble (t.length+g.length) lim),(true,Nat.ble Y.length lim)]) (aA ha (aA hl aH)) (an hm (an hj trivial)) (by kernel_rfl)
end
end
section
noncomputable abbrev gX (sD s0:D)(t:Nm)(fo:List (Nm×V))(cw:Option V)(X Y:List V):List O:=
 [.fr ([(dJ,.dat sD),(dP,.ref 2),(m1,.dat s0),(cN,.dat (.str t)),(iE,.ref 3)]++fo),.cel cw,.lst X,.lst Y]
section
variable (z:c8){sD s0:D}{t w:Nm}{m:Nat}{cw:Option V}{X X' X2 Y E:List V}{es:List D}
theorem El {k:Nat}(h0:CallOk z.c 1 822 [.ref 2] (gX sD s0 t ([]) cw X Y) (.dat (.int (Int.ofNat m))) (gX sD s0 t ([]) cw X' Y))(h1:(V.dat (.int (Int.fmod (Int.ofNat m) 4)):V)=.dat (.int 0))(hd:(!Builtin.divisionGoesByPylong (Int.ofNat m) 4)=true)(h2:(V.dat (.int (Int.fdiv (Int.ofNat m) 4)):V)=.dat (.int (Int.ofNat (m/4))))(h3:CallOk z.c 4 881 [.dat (.int (Int.ofNat (m/4)))] [] (.dat (.lst es)) []):RX z.c cH.names 17 FL (gX sD s0 t ([]) cw X Y) (iF.b.take 2) .next (LQ sD s0 t m (.dat (.lst es)) cw X' Y):=
 z.useX (hs:=[.cll 822 1 (.dat (.int (Int.ofNat m))) (gX sD s0 t ([]) cw X' Y),.val 1358011016 (.dat (.int 0)),.val 1359033039 (.dat (.int (Int.ofNat (m/4)))),.cal 881 4 [] (.dat (.lst es)) []]) (g:=cg [(true,!Builtin.divisionGoesByPylong (Int.ofNat m) 4)]) (aA hd aH) (an h3 (an h2 (an h1 (an h0 trivial)))) (by kernel_rfl)
theorem Em {k:Nat}{a v:V}(h0:CallOk z.c 1 822 [.ref 2] (gX sD s0 t ([(kC,a),(aV,v)]) cw X Y) (.dat (.int (Int.ofNat m))) (gX sD s0 t ([(kC,a),(aV,v)]) cw X' Y))(h1:(V.dat (.int (Int.fmod (Int.ofNat m) 4)):V)=.dat (.int 0))(hd:(!Builtin.divisionGoesByPylong (Int.ofNat m) 4)=true)(h2:(V.dat (.int (Int.fdiv (Int.ofNat m) 4)):V)=.dat (.int (Int.ofNat (m/4))))(h3:CallOk z.c 4 881 [.dat (.int (Int.ofNat (m/4)))] [] (.dat (.lst es)) []):RX z.c cH.names 17 FL (gX sD s0 t ([(kC,a),(aV,v)]) cw X Y) (iF.b.take 2) .next (LQ sD s0 t m (.dat (.lst es)) cw X' Y):=
 z.useX (hs:=[.cll 822 1 (.dat (.int (Int.ofNat m))) (gX sD s0 t ([(kC,a),(aV,v)]) cw X' Y),.val 1358011016 (.dat (.int 0)),.val 1359033039 (.dat (.int (Int.ofNat (m/4)))),.cal 881 4 [] (.dat (.lst es)) []]) (g:=cg [(true,!Builtin.divisionGoesByPylong (Int.ofNat m) 4)]) (aA hd aH) (an h3 (an h2 (an h1 (an h0 trivial)))) (by kernel_rfl)
theorem En {k:Nat}(h0:CallOk z.c 1 822 [.ref 2] (gX sD s0 t ([]) cw X Y) (.dat (.int (Int.ofNat m))) (gX sD s0 t ([]) cw X' Y))(h1:(V.dat (.int (Int.fmod (Int.ofNat m) 4)):V)=.dat (.int 1))(hd:(!Builtin.divisionGoesByPylong (Int.ofNat m) 4)=true)(h2:(V.dat (.int (Int.fdiv (Int.ofNat m) 4)):V)=.dat (.int (Int.ofNat (m/4))))(h3:CallOk z.c 8 893 [.dat (.int (Int.ofNat (m/4))),.ref 2] (gX sD s0 t (oG m none) cw X' Y) (.dat (.lst es)) (gX sD s0 t (oG m none) cw X2 Y)):RX z.c cH.names 17 FL (gX sD s0 t ([]) cw X Y) (iF.b.take 2) .next (LQ sD s0 t m (.dat (.lst es)) cw X2 Y):=
 z.useX (hs:=[.cll 822 1 (.dat (.int (Int.ofNat m))) (gX sD s0 t ([]) cw X' Y),.val 1358011016 (.dat (.int 1)),.val 1360013018 (.dat (.int 1)),.val 1361033039 (.dat (.int (Int.ofNat (m/4)))),.cll 893 8 (.dat (.lst es)) (gX sD s0 t (oG m none) cw X2 Y)]) (g:=cg [(true,!Builtin.divisionGoesByPylong (Int.ofNat m) 4)]) (aA hd aH) (an h3 (an h2 (an h1 (an h1 (an h0 trivial))))) (by kernel_rfl)
theorem Eo {k:Nat}{a v:V}(h0:CallOk z.c 1 822 [.ref 2] (gX sD s0 t ([(kC,a),(aV,v)]) cw X Y) (.dat (.int (Int.ofNat m))) (gX sD s0 t ([(kC,a),(aV,v)]) cw X' Y))(h1:(V.dat (.int (Int.fmod (Int.ofNat m) 4)):V)=.dat (.int 1))(hd:(!Builtin.divisionGoesByPylong (Int.ofNat m) 4)=true)(h2:(V.dat (.int (Int.fdiv (Int.ofNat m) 4)):V)=.dat (.int (Int.ofNat (m/4))))(h3:CallOk z.c 8 893 [.dat (.int (Int.ofNat (m/4))),.ref 2] (gX sD s0 t (oG m (some v)) cw X' Y) (.dat (.lst es)) (gX sD s0 t (oG m (some v)) cw X2 Y)):RX z.c cH.names 17 FL (gX sD s0 t ([(kC,a),(aV,v)]) cw X Y) (iF.b.take 2) .next (LQ sD s0 t m (.dat (.lst es)) cw X2 Y):=
 z.useX (hs:=[.cll 822 1 (.dat (.int (Int.ofNat m))) (gX sD s0 t ([(kC,a),(aV,v)]) cw X' Y),.val 1358011016 (.dat (.int 1)),.val 1360013018 (.dat (.int 1)),.val 1361033039 (.dat (.int (Int.ofNat (m/4)))),.cll 893 8 (.dat (.lst es)) (gX sD s0 t (oG m (some v)) cw X2 Y)]) (g:=cg [(true,!Builtin.divisionGoesByPylong (Int.ofNat m) 4)]) (aA hd aH) (an h3 (an h2 (an h1 (an h1 (an h0 trivial))))) (by kernel_rfl)
theorem Ep {k:Nat}(h0:CallOk z.c 1 822 [.ref 2] (gX sD s0 t ([]) cw X Y) (.dat (.int (Int.ofNat m))) (gX sD s0 t ([]) cw X' Y))(h1:(V.dat (.int (Int.fmod (Int.ofNat m) 4)):V)=.dat (.int 2))(hd:(!Builtin.divisionGoesByPylong (Int.ofNat m) 4)=true)(h3:CallOk z.c 1 808 [] [] (.dat (.lst (aB gW))) [])(h2:(V.dat (.int (Int.fmod (Int.fdiv (Int.ofNat m) 4) 11)):V)=.dat (.int (Int.ofNat k)))(h4:∀ hp,bZ z.c 17 hp getItem z.c.VT (.dat (.lst (aB gW))) (.dat (.int (Int.ofNat k))) (.dat (.str w)) hp)(h5:RS z.c cH.names 17 FL (gX sD s0 t (oG m none) (some (.dat (.str w))) X' Y) qL.s .next (LQ sD s0 t m (.ref 4) (some (.dat (.str w))) X' Y++[.lst E,.gone])):RX z.c cH.names 17 FL (gX sD s0 t ([]) cw X Y) (iF.b.take 2) .next ((LQ sD s0 t m (.ref 4) (some (.dat (.str w))) X' Y++[.lst E,.gone])):=
 z.useX (hs:=[.cll 822 1 (.dat (.int (Int.ofNat m))) (gX sD s0 t ([]) cw X' Y),.val 1358011016 (.dat (.int 2)),.val 1360013018 (.dat (.int 2)),.val 1362013018 (.dat (.int 2)),.cal 808 1 [] (.dat (.lst (aB gW))) [],.val 1363031042 (.dat (.int (Int.ofNat k))),.sub 1363020043 (.dat (.str w)),.stm 1364 .next (LQ sD s0 t m (.ref 4) (some (.dat (.str w))) X' Y++[.lst E,.gone])]) (g:=cg [(true,!Builtin.divisionGoesByPylong (Int.ofNat m) 4)]) (aA hd aH) (an h5 (an h4 (an h2 (an h3 (an h1 (an h1 (an h1 (an h0 trivial)))))))) (by kernel_rfl)
theorem Er {k:Nat}{a v:V}(h0:CallOk z.c 1 822 [.ref 2] (gX sD s0 t ([(kC,a),(aV,v)]) cw X Y) (.dat (.int (Int.ofNat m))) (gX sD s0 t ([(kC,a),(aV,v)]) cw X' Y))(h1:(V.dat (.int (Int.fmod (Int.ofNat m) 4)):V)=.dat (.int 2))(hd:(!Builtin.divisionGoesByPylong (Int.ofNat m) 4)=true)(h3:CallOk z.c 1 808 [] [] (.dat (.lst (aB gW))) [])(h2:(V.dat (.int (Int.fmod (Int.fdiv (Int.ofNat m) 4) 11)):V)=.dat (.int (Int.ofNat k)))(h4:∀ hp,bZ z.c 17 hp getItem z.c.VT (.dat (.lst (aB gW))) (.dat (.int (Int.ofNat k))) (.dat (.str w)) hp)(h5:RS z.c cH.names 17 FL (gX sD s0 t (oG m (some v)) (some (.dat (.str w))) X' Y) qL.s .next (LQ sD s0 t m (.ref 4) (some (.dat (.str w))) X' Y++[.lst E,.gone])):RX z.c cH.names 17 FL (gX sD s0 t ([(kC,a),(aV,v)]) cw X Y) (iF.b.take 2) .next ((LQ sD s0 t m (.ref 4) (some (.dat (.str w))) X' Y++[.lst E,.gone])):=
 z.useX (hs:=[.cll 822 1 (.dat (.int (Int.ofNat m))) (gX sD s0 t ([(kC,a),(aV,v)]) cw X' Y),.val 1358011016 (.dat (.int 2)),.val 1360013018 (.dat (.int 2)),.val 1362013018 (.dat (.int 2)),.cal 808 1 [] (.dat (.lst (aB gW))) [],.val 1363031042 (.dat (.int (Int.ofNat k))),.sub 1363020043 (.dat (.str w)),.stm 1364 .next (LQ sD s0 t m (.ref 4) (some (.dat (.str w))) X' Y++[.lst E,.gone])]) (g:=cg [(true,!Builtin.divisionGoesByPylong (Int.ofNat m) 4)]) (aA hd aH) (an h5 (an h4 (an h2 (an h3 (an h1 (an h1 (an h1 (an h0 trivial)))))))) (by kernel_rfl)
theorem Es {k:Nat}(h0:CallOk z.c 1 822 [.ref 2] (gX sD s0 t ([]) cw X Y) (.dat (.int (Int.ofNat m))) (gX sD s0 t ([]) cw X' Y))(h1:(V.dat (.int (Int.fmod (Int.ofNat m) 4)):V)=.dat (.int 3))(hd:(!Builtin.divisionGoesByPylong (Int.ofNat m) 4)=true)(h3:CallOk z.c 1 815 [] [] (.dat (.lst (aB gO))) [])(h2:(V.dat (.int (Int.fmod (Int.fdiv (Int.ofNat m) 4) 6)):V)=.dat (.int (Int.ofNat k)))(h4:∀ hp,bZ z.c 17 hp getItem z.c.VT (.dat (.lst (aB gO))) (.dat (.int (Int.ofNat k))) (.dat (.str w)) hp)(h5:RS z.c cH.names 17 FL (gX sD s0 t (oG m none) (some (.dat (.str w))) X' Y) qM.s .next (LQ sD s0 t m (.ref 4) (some (.dat (.str w))) X' Y++[.lst E,.gone])):RX z.c cH.names 17 FL (gX sD s0 t ([]) cw X Y) (iF.b.take 2) .next ((LQ sD s0 t m (.ref 4) (some (.dat (.str w))) X' Y++[.lst E,.gone])):=
 z.useX (hs:=[.cll 822 1 (.dat (.int (Int.ofNat m))) (gX sD s0 t ([]) cw X' Y),.val 1358011016 (.dat (.int 3)),.val 1360013018 (.dat (.int 3)),.val 1362013018 (.dat (.int 3)),.cal 815 1 [] (.dat (.lst (aB gO))) [],.val 1366033043 (.dat (.int (Int.ofNat k))),.sub 1366020044 (.dat (.str w)),.stm 1367 .next (LQ sD s0 t m (.ref 4) (some (.dat (.str w))) X' Y++[.lst E,.gone])]) (g:=cg [(true,!Builtin.divisionGoesByPylong (Int.ofNat m) 4)]) (aA hd aH) (an h5 (an h4 (an h2 (an h3 (an h1 (an h1 (an h1 (an h0 trivial)))))))) (by kernel_rfl)
theorem Et {k:Nat}{a v:V}(h0:CallOk z.c 1 822 [.ref 2] (gX sD s0 t ([(kC,a),(aV,v)]) cw X Y) (.dat (.int (Int.ofNat m))) (gX sD s0 t ([(kC,a),(aV,v)]) cw X' Y))(h1:(V.dat (.int (Int.fmod (Int.ofNat m) 4)):V)=.dat (.int 3))(hd:(!Builtin.divisionGoesByPylong (Int.ofNat m) 4)=true)(h3:CallOk z.c 1 815 [] [] (.dat (.lst (aB gO))) [])(h2:(V.dat (.int (Int.fmod (Int.fdiv (Int.ofNat m) 4) 6)):V)=.dat (.int (Int.ofNat k)))(h4:∀ hp,bZ z.c 17 hp getItem z.c.VT (.dat (.lst (aB gO))) (.dat (.int (Int.ofNat k))) (.dat (.str w)) hp)(h5:RS z.c cH.names 17 FL (gX sD s0 t (oG m (some v)) (some (.dat (.str w))) X' Y) qM.s .next (LQ sD s0 t m (.ref 4) (some (.dat (.str w))) X' Y++[.lst E,.gone])):RX z.c cH.names 17 FL (gX sD s0 t ([(kC,a),(aV,v)]) cw X Y) (iF.b.take 2) .next ((LQ sD s0 t m (.ref 4) (some (.dat (.str w))) X' Y++[.lst E,.gone])):=
 z.useX (hs:=[.cll 822 1 (.dat (.int (Int.ofNat m))) (gX sD s0 t ([(kC,a),(aV,v)]) cw X' Y),.val 1358011016 (.dat (.int 3)),.val 1360013018 (.dat (.int 3)),.val 1362013018 (.dat (.int 3)),.cal 815 1 [] (.dat (.lst (aB gO))) [],.val 1366033043 (.dat (.int (Int.ofNat k))),.sub 1366020044 (.dat (.str w)),.stm 1367 .next (LQ sD s0 t m (.ref 4) (some (.dat (.str w))) X' Y++[.lst E,.gone])]) (g:=cg [(true,!Builtin.divisionGoesByPylong (Int.ofNat m) 4)]) (aA hd aH) (an h5 (an h4 (an h2 (an h3 (an h1 (an h1 (an h1 (an h0 trivial)))))))) (by kernel_rfl)
end
end
section
noncomputable def nQ:Nm:=Um
noncomputable def aI:Nm:=[102,105,114,115,116]
noncomputable def aL:Nm:=[108,97,115,116]
noncomputable def Ic:Nm:=[113,117,111,116,101]
noncomputable def bE:Nm:=[103,114,111,119,110]
noncomputable def bF:Nm:=[107,110,111,119,110]
section
variable {c:Cx}{sc:aU}{n:Nat}{F:Fx}{g:Expr}{b:List Stmt}{base:Nat}{v:V}{all:List V}
theorem x6 (P:Nat→List O→Prop)(hi:∀ k hp,P k hp→e8 v hp=some all)(step:∀ k y hp,all[k]? =some y→P k hp→∃ hp1 hp2 hp3,RG c sc n F hp g y hp1∧RX c sc n F hp1 b .next hp2∧Gc base hp2 hp3∧P (k+1) hp3):
  ∀ (m k:Nat) (hp:List O),k+m=all.length→P k hp→∃ hp',ForR c sc n F g b base v (m+1) k hp .next hp'∧P all.length hp'
 |0,k,hp,e,h=>⟨hp,.stop (hi k hp h) (List.getElem?_eq_none (Nat.le_of_eq e.symm)),(show k=all.length from e)▸h⟩
 |m+1,k,hp,e,h=>by
  have lt:k<all.length:=by omega
  have hk:=List.getElem?_eq_getElem lt
  obtain⟨hp1,hp2,hp3,h1,h2,gc,h3⟩:=step k _ hp hk h
  obtain⟨hp',q,p⟩:=x6 P hi step m (k+1) hp3 (by omega) h3
  exact⟨hp',.turn (hi k hp h) hk h1 h2 rfl gc q,p⟩
end
noncomputable def cD (f:Nm)(T:List Nm):Nat→List Nm
 |0=>T
 |k+1=>match f[k]? with
  |some a=>bif nb [a] [0]then cD f T k++[bY]else cD f T k
  |none=>cD f T k
noncomputable def sN (name:Nm)(first last:Option Nm)(grown:Nm):Item:=match last with
 |none=>.doc name (some grown) none false
 |some _=>.doc name first (some grown) false
noncomputable abbrev aY:Nm:=nQ
noncomputable def jV (name:Nm)(first last:Option Nm)(w f:Nm)(T:List Nm):Nat→List b9
 |0=>[]
 |k+1=>jV name first last w f T k++(match f[k]? with|some a=>[(a,bT (cD f T (k+1)++[aY]) (sN name first last (aE (cut w none (some (Int.ofNat k))))))] |none=>[])
noncomputable def kA:Fn:=kL k8 [40] []
noncomputable def lU:ForI:=vR (nW kA.body 0)
noncomputable abbrev QU (name:Nm)(fD lD:D)(w:Nm)(q:Nat)(X Y:List V)(eo:List (Nm×V)):List O:=
 [.lst X,.lst Y,.fr ([(aV,.ref 0),(fJ,.ref 1),(tX,.dat (.str name)),(aI,.dat fD),(aL,.dat lD),(cK,.dat (.str w)),(Ic,.dat (.str [q]))]++eo)]
noncomputable abbrev bO (X:List V)(d:D):List V:=X++[.dat d]
noncomputable abbrev QS (name:Nm)(fD lD:D)(w:Nm)(q:Nat)(X Y:List V)(eo:List (Nm×V)):List O:=QU name fD lD w q X Y eo++[.lst [.dat (.str aY)],.lst (bO Y (.str aY))]
section
variable (z:c8){name w:Nm}{fD:D}{q k a:Nat}{X Y:List V}
theorem Ie {R:List D}(h1:Nat.ble (1+w.length) lim=true)(h2:Nat.ble (w.length+1+1) lim=true)(h3:nb [a] [0]=true)(h4:Nat.ble Y.length lim=true)(h5:Nat.ble w.length lim=true)(h6:Nat.ble ((bO Y (.str bY)).length+1) lim=true)(h7:Nat.ble X.length lim=true)(o1:CallOk z.c 1 839 [.ref 4,.dat (.tup [.str eA,.str name,.str (aE (cut w none (some (Int.ofNat k)))),.non,.boo false])] (QS name fD .non w q X (bO Y (.str bY)) [(bC,.dat (.int (Int.ofNat k))),(bM,.dat (.str [a])),(bE,.dat (.str (aE (cut w none (some (Int.ofNat k)))))),(bF,.dat (.tup [.str (aE (cut w none (some (Int.ofNat k)))),.non]))]) (.dat (.lst R)) (QS name fD .non w q X (bO Y (.str bY)) [(bC,.dat (.int (Int.ofNat k))),(bM,.dat (.str [a])),(bE,.dat (.str (aE (cut w none (some (Int.ofNat k)))))),(bF,.dat (.tup [.str (aE (cut w none (some (Int.ofNat k)))),.non]))]))(o2:CallOk z.c 1 829 [.dat (.str (cut w none (some (Int.ofNat k))))] [] (.dat (.str (aE (cut w none (some (Int.ofNat k)))))) [])(o3:(∀ hp,bZ z.c 2 hp getItem z.c.VT (.dat (.str ([q]++w++[q]))) (.dat (.int (Int.ofNat k))) (.dat (.str [a])) hp)):RX z.c kA.names 2 ⟨2,[]⟩ (QU name fD .non w q X Y [(bC,.dat (.int (Int.ofNat k)))]) lU.b .next (QS name fD .non w q (bO X (.tup [.str [a],.lst R])) (bO Y (.str bY)) [(bC,.dat (.int (Int.ofNat k))),(bM,.dat (.str [a])),(bE,.dat (.str (aE (cut w none (some (Int.ofNat k)))))),(bF,.dat (.tup [.str (aE (cut w none (some (Int.ofNat k)))),.non]))]):=
 z.useX (hs:=[.sub 1274015044 (.dat (.str [a])),.tst 1275011025 true,.cal 829 1 [] (.dat (.str (aE (cut w none (some (Int.ofNat k)))))) [],.cll 839 1 (.dat (.lst R)) (QS name fD .non w q X (bO Y (.str bY)) [(bC,.dat (.int (Int.ofNat k))),(bM,.dat (.str [a])),(bE,.dat (.str (aE (cut w none (some (Int.ofNat k)))))),(bF,.dat (.tup [.str (aE (cut w none (some (Int.ofNat k)))),.non]))])]) (g:=cg [(true,Nat.ble X.length lim),(true,Nat.ble ((bO Y (.str bY)).length+1) lim),(true,Nat.ble w.length lim),(true,Nat.ble Y.length lim),(true,nb [a] [0]),(true,Nat.ble (w.length+1+1) lim),(true,Nat.ble (1+w.length) lim)]) (aA h7 (aA h6 (aA h5 (aA h4 (aA h3 (aA h2 (aA h1 aH))))))) (an o1 (an o2 (an o3 trivial))) (by kernel_rfl)
theorem Ig {R:List D}{l:Nm}(h1:Nat.ble (1+w.length) lim=true)(h2:Nat.ble (w.length+1+1) lim=true)(h3:nb [a] [0]=true)(h4:Nat.ble Y.length lim=true)(h5:Nat.ble w.length lim=true)(h6:Nat.ble ((bO Y (.str bY)).length+1) lim=true)(h7:Nat.ble X.length lim=true)(o1:CallOk z.c 1 839 [.ref 4,.dat (.tup [.str eA,.str name,fD,.str (aE (cut w none (some (Int.ofNat k)))),.boo false])] (QS name fD (.str l) w q X (bO Y (.str bY)) [(bC,.dat (.int (Int.ofNat k))),(bM,.dat (.str [a])),(bE,.dat (.str (aE (cut w none (some (Int.ofNat k)))))),(bF,.dat (.tup [fD,.str (aE (cut w none (some (Int.ofNat k))))]))]) (.dat (.lst R)) (QS name fD (.str l) w q X (bO Y (.str bY)) [(bC,.dat (.int (Int.ofNat k))),(bM,.dat (.str [a])),(bE,.dat (.str (aE (cut w none (some (Int.ofNat k)))))),(bF,.dat (.tup [fD,.str (aE (cut w none (some (Int.ofNat k))))]))]))(o2:CallOk z.c 1 829 [.dat (.str (cut w none (some (Int.ofNat k))))] [] (.dat (.str (aE (cut w none (some (Int.ofNat k)))))) [])(o3:(∀ hp,bZ z.c 2 hp getItem z.c.VT (.dat (.str ([q]++w++[q]))) (.dat (.int (Int.ofNat k))) (.dat (.str [a])) hp)):RX z.c kA.names 2 ⟨2,[]⟩ (QU name fD (.str l) w q X Y [(bC,.dat (.int (Int.ofNat k)))]) lU.b .next (QS name fD (.str l) w q (bO X (.tup [.str [a],.lst R])) (bO Y (.str bY)) [(bC,.dat (.int (Int.ofNat k))),(bM,.dat (.str [a])),(bE,.dat (.str (aE (cut w none (some (Int.ofNat k)))))),(bF,.dat (.tup [fD,.str (aE (cut w none (some (Int.ofNat k))))]))]):=
 z.useX (hs:=[.sub 1274015044 (.dat (.str [a])),.tst 1275011025 true,.cal 829 1 [] (.dat (.str (aE (cut w none (some (Int.ofNat k)))))) [],.cll 839 1 (.dat (.lst R)) (QS name fD (.str l) w q X (bO Y (.str bY)) [(bC,.dat (.int (Int.ofNat k))),(bM,.dat (.str [a])),(bE,.dat (.str (aE (cut w none (some (Int.ofNat k)))))),(bF,.dat (.tup [fD,.str (aE (cut w none (some (Int.ofNat k))))]))])]) (g:=cg [(true,Nat.ble X.length lim),(true,Nat.ble ((bO Y (.str bY)).length+1) lim),(true,Nat.ble w.length lim),(true,Nat.ble Y.length lim),(true,nb [a] [0]),(true,Nat.ble (w.length+1+1) lim),(true,Nat.ble (1+w.length) lim)]) (aA h7 (aA h6 (aA h5 (aA h4 (aA h3 (aA h2 (aA h1 aH))))))) (an o1 (an o2 (an o3 trivial))) (by kernel_rfl)
theorem Ih {R:List D}(h1:Nat.ble (1+w.length) lim=true)(h2:Nat.ble (w.length+1+1) lim=true)(h3:nb [a] [0]=false)(h5:Nat.ble w.length lim=true)(h6:Nat.ble (Y.length+1) lim=true)(h7:Nat.ble X.length lim=true)(o1:CallOk z.c 1 839 [.ref 4,.dat (.tup [.str eA,.str name,.str (aE (cut w none (some (Int.ofNat k)))),.non,.boo false])] (QS name fD .non w q X Y [(bC,.dat (.int (Int.ofNat k))),(bM,.dat (.str [a])),(bE,.dat (.str (aE (cut w none (some (Int.ofNat k)))))),(bF,.dat (.tup [.str (aE (cut w none (some (Int.ofNat k)))),.non]))]) (.dat (.lst R)) (QS name fD .non w q X Y [(bC,.dat (.int (Int.ofNat k))),(bM,.dat (.str [a])),(bE,.dat (.str (aE (cut w none (some (Int.ofNat k)))))),(bF,.dat (.tup [.str (aE (cut w none (some (Int.ofNat k)))),.non]))]))(o2:CallOk z.c 1 829 [.dat (.str (cut w none (some (Int.ofNat k))))] [] (.dat (.str (aE (cut w none (some (Int.ofNat k)))))) [])(o3:(∀ hp,bZ z.c 2 hp getItem z.c.VT (.dat (.str ([q]++w++[q]))) (.dat (.int (Int.ofNat k))) (.dat (.str [a])) hp)):RX z.c kA.names 2 ⟨2,[]⟩ (QU name fD .non w q X Y [(bC,.dat (.int (Int.ofNat k)))]) lU.b .next (QS name fD .non w q (bO X (.tup [.str [a],.lst R])) Y [(bC,.dat (.int (Int.ofNat k))),(bM,.dat (.str [a])),(bE,.dat (.str (aE (cut w none (some (Int.ofNat k)))))),(bF,.dat (.tup [.str (aE (cut w none (some (Int.ofNat k)))),.non]))]):=
 z.useX (hs:=[.sub 1274015044 (.dat (.str [a])),.tst 1275011025 false,.cal 829 1 [] (.dat (.str (aE (cut w none (some (Int.ofNat k)))))) [],.cll 839 1 (.dat (.lst R)) (QS name fD .non w q X Y [(bC,.dat (.int (Int.ofNat k))),(bM,.dat (.str [a])),(bE,.dat (.str (aE (cut w none (some (Int.ofNat k)))))),(bF,.dat (.tup [.str (aE (cut w none (some (Int.ofNat k)))),.non]))])]) (g:=cg [(true,Nat.ble X.length lim),(true,Nat.ble (Y.length+1) lim),(true,Nat.ble w.length lim),(false,nb [a] [0]),(true,Nat.ble (w.length+1+1) lim),(true,Nat.ble (1+w.length) lim)]) (aA h7 (aA h6 (aA h5 (aA h3 (aA h2 (aA h1 aH)))))) (an o1 (an o2 (an o3 trivial))) (by kernel_rfl)
theorem Ii {R:List D}{l:Nm}(h1:Nat.ble (1+w.length) lim=true)(h2:Nat.ble (w.length+1+1) lim=true)(h3:nb [a] [0]=false)(h5:Nat.ble w.length lim=true)(h6:Nat.ble (Y.length+1) lim=true)(h7:Nat.ble X.length lim=true)(o1:CallOk z.c 1 839 [.ref 4,.dat (.tup [.str eA,.str name,fD,.str (aE (cut w none (some (Int.ofNat k)))),.boo false])] (QS name fD (.str l) w q X Y [(bC,.dat (.int (Int.ofNat k))),(bM,.dat (.str [a])),(bE,.dat (.str (aE (cut w none (some (Int.ofNat k)))))),(bF,.dat (.tup [fD,.str (aE (cut w none (some (Int.ofNat k))))]))]) (.dat (.lst R)) (QS name fD (.str l) w q X Y [(bC,.dat (.int (Int.ofNat k))),(bM,.dat (.str [a])),(bE,.dat (.str (aE (cut w none (some (Int.ofNat k)))))),(bF,.dat (.tup [fD,.str (aE (cut w none (some (Int.ofNat k))))]))]))(o2:CallOk z.c 1 829 [.dat (.str (cut w none (some (Int.ofNat k))))] [] (.dat (.str (aE (cut w none (some (Int.ofNat k)))))) [])(o3:(∀ hp,bZ z.c 2 hp getItem z.c.VT (.dat (.str ([q]++w++[q]))) (.dat (.int (Int.ofNat k))) (.dat (.str [a])) hp)):RX z.c kA.names 2 ⟨2,[]⟩ (QU name fD (.str l) w q X Y [(bC,.dat (.int (Int.ofNat k)))]) lU.b .next (QS name fD (.str l) w q (bO X (.tup [.str [a],.lst R])) Y [(bC,.dat (.int (Int.ofNat k))),(bM,.dat (.str [a])),(bE,.dat (.str (aE (cut w none (some (Int.ofNat k)))))),(bF,.dat (.tup [fD,.str (aE (cut w none (some (Int.ofNat k))))]))]):=
 z.useX (hs:=[.sub 1274015044 (.dat (.str [a])),.tst 1275011025 false,.cal 829 1 [] (.dat (.str (aE (cut w none (some (Int.ofNat k)))))) [],.cll 839 1 (.dat (.lst R)) (QS name fD (.str l) w q X Y [(bC,.dat (.int (Int.ofNat k))),(bM,.dat (.str [a])),(bE,.dat (.str (aE (cut w none (some (Int.ofNat k)))))),(bF,.dat (.tup [fD,.str (aE (cut w none (some (Int.ofNat k))))]))])]) (g:=cg [(true,Nat.ble X.length lim),(true,Nat.ble (Y.length+1) lim),(true,Nat.ble w.length lim),(false,nb [a] [0]),(true,Nat.ble (w.length+1+1) lim),(true,Nat.ble (1+w.length) lim)]) (aA h7 (aA h6 (aA h5 (aA h3 (aA h2 (aA h1 aH)))))) (an o1 (an o2 (an o3 trivial))) (by kernel_rfl)
theorem Ij {R:List D}{v1 v2 v3:V}(h1:Nat.ble (1+w.length) lim=true)(h2:Nat.ble (w.length+1+1) lim=true)(h3:nb [a] [0]=true)(h4:Nat.ble Y.length lim=true)(h5:Nat.ble w.length lim=true)(h6:Nat.ble ((bO Y (.str bY)).length+1) lim=true)(h7:Nat.ble X.length lim=true)(o1:CallOk z.c 1 839 [.ref 4,.dat (.tup [.str eA,.str name,.str (aE (cut w none (some (Int.ofNat k)))),.non,.boo false])] (QS name fD .non w q X (bO Y (.str bY)) [(bC,.dat (.int (Int.ofNat k))),(bM,.dat (.str [a])),(bE,.dat (.str (aE (cut w none (some (Int.ofNat k)))))),(bF,.dat (.tup [.str (aE (cut w none (some (Int.ofNat k)))),.non]))]) (.dat (.lst R)) (QS name fD .non w q X (bO Y (.str bY)) [(bC,.dat (.int (Int.ofNat k))),(bM,.dat (.str [a])),(bE,.dat (.str (aE (cut w none (some (Int.ofNat k)))))),(bF,.dat (.tup [.str (aE (cut w none (some (Int.ofNat k)))),.non]))]))(o2:CallOk z.c 1 829 [.dat (.str (cut w none (some (Int.ofNat k))))] [] (.dat (.str (aE (cut w none (some (Int.ofNat k)))))) [])(o3:(∀ hp,bZ z.c 2 hp getItem z.c.VT (.dat (.str ([q]++w++[q]))) (.dat (.int (Int.ofNat k))) (.dat (.str [a])) hp)):RX z.c kA.names 2 ⟨2,[]⟩ (QU name fD .non w q X Y [(bC,.dat (.int (Int.ofNat k))),(bM,v1),(bE,v2),(bF,v3)]) lU.b .next (QS name fD .non w q (bO X (.tup [.str [a],.lst R])) (bO Y (.str bY)) [(bC,.dat (.int (Int.ofNat k))),(bM,.dat (.str [a])),(bE,.dat (.str (aE (cut w none (some (Int.ofNat k)))))),(bF,.dat (.tup [.str (aE (cut w none (some (Int.ofNat k)))),.non]))]):=
 z.useX (hs:=[.sub 1274015044 (.dat (.str [a])),.tst 1275011025 true,.cal 829 1 [] (.dat (.str (aE (cut w none (some (Int.ofNat k)))))) [],.cll 839 1 (.dat (.lst R)) (QS name fD .non w q X (bO Y (.str bY)) [(bC,.dat (.int (Int.ofNat k))),(bM,.dat (.str [a])),(bE,.dat (.str (aE (cut w none (some (Int.ofNat k)))))),(bF,.dat (.tup [.str (aE (cut w none (some (Int.ofNat k)))),.non]))])]) (g:=cg [(true,Nat.ble X.length lim),(true,Nat.ble ((bO Y (.str bY)).length+1) lim),(true,Nat.ble w.length lim),(true,Nat.ble Y.length lim),(true,nb [a] [0]),(true,Nat.ble (w.length+1+1) lim),(true,Nat.ble (1+w.length) lim)]) (aA h7 (aA h6 (aA h5 (aA h4 (aA h3 (aA h2 (aA h1 aH))))))) (an o1 (an o2 (an o3 trivial))) (by kernel_rfl)
theorem Ik {R:List D}{v1 v2 v3:V}{l:Nm}(h1:Nat.ble (1+w.length) lim=true)(h2:Nat.ble (w.length+1+1) lim=true)(h3:nb [a] [0]=true)(h4:Nat.ble Y.length lim=true)(h5:Nat.ble w.length lim=true)(h6:Nat.ble ((bO Y (.str bY)).length+1) lim=true)(h7:Nat.ble X.length lim=true)(o1:CallOk z.c 1 839 [.ref 4,.dat (.tup [.str eA,.str name,fD,.str (aE (cut w none (some (Int.ofNat k)))),.boo false])] (QS name fD (.str l) w q X (bO Y (.str bY)) [(bC,.dat (.int (Int.ofNat k))),(bM,.dat (.str [a])),(bE,.dat (.str (aE (cut w none (some (Int.ofNat k)))))),(bF,.dat (.tup [fD,.str (aE (cut w none (some (Int.ofNat k))))]))]) (.dat (.lst R)) (QS name fD (.str l) w q X (bO Y (.str bY)) [(bC,.dat (.int (Int.ofNat k))),(bM,.dat (.str [a])),(bE,.dat (.str (aE (cut w none (some (Int.ofNat k)))))),(bF,.dat (.tup [fD,.str (aE (cut w none (some (Int.ofNat k))))]))]))(o2:CallOk z.c 1 829 [.dat (.str (cut w none (some (Int.ofNat k))))] [] (.dat (.str (aE (cut w none (some (Int.ofNat k)))))) [])(o3:(∀ hp,bZ z.c 2 hp getItem z.c.VT (.dat (.str ([q]++w++[q]))) (.dat (.int (Int.ofNat k))) (.dat (.str [a])) hp)):RX z.c kA.names 2 ⟨2,[]⟩ (QU name fD (.str l) w q X Y [(bC,.dat (.int (Int.ofNat k))),(bM,v1),(bE,v2),(bF,v3)]) lU.b .next (QS name fD (.str l) w q (bO X (.tup [.str [a],.lst R])) (bO Y (.str bY)) [(bC,.dat (.int (Int.ofNat k))),(bM,.dat (.str [a])),(bE,.dat (.str (aE (cut w none (some (Int.ofNat k)))))),(bF,.dat (.tup [fD,.str (aE (cut w none (some (Int.ofNat k))))]))]):=
 z.useX (hs:=[.sub 1274015044 (.dat (.str [a])),.tst 1275011025 true,.cal 829 1 [] (.dat (.str (aE (cut w none (some (Int.ofNat k)))))) [],.cll 839 1 (.dat (.lst R)) (QS name fD (.str l) w q X (bO Y (.str bY)) [(bC,.dat (.int (Int.ofNat k))),(bM,.dat (.str [a])),(bE,.dat (.str (aE (cut w none (some (Int.ofNat k)))))),(bF,.dat (.tup [fD,.str (aE (cut w none (some (Int.ofNat k))))]))])]) (g:=cg [(true,Nat.ble X.length lim),(true,Nat.ble ((bO Y (.str bY)).length+1) lim),(true,Nat.ble w.length lim),(true,Nat.ble Y.length lim),(true,nb [a] [0]),(true,Nat.ble (w.length+1+1) lim),(true,Nat.ble (1+w.length) lim)]) (aA h7 (aA h6 (aA h5 (aA h4 (aA h3 (aA h2 (aA h1 aH))))))) (an o1 (an o2 (an o3 trivial))) (by kernel_rfl)
theorem Il {R:List D}{v1 v2 v3:V}(h1:Nat.ble (1+w.length) lim=true)(h2:Nat.ble (w.length+1+1) lim=true)(h3:nb [a] [0]=false)(h5:Nat.ble w.length lim=true)(h6:Nat.ble (Y.length+1) lim=true)(h7:Nat.ble X.length lim=true)(o1:CallOk z.c 1 839 [.ref 4,.dat (.tup [.str eA,.str name,.str (aE (cut w none (some (Int.ofNat k)))),.non,.boo false])] (QS name fD .non w q X Y [(bC,.dat (.int (Int.ofNat k))),(bM,.dat (.str [a])),(bE,.dat (.str (aE (cut w none (some (Int.ofNat k)))))),(bF,.dat (.tup [.str (aE (cut w none (some (Int.ofNat k)))),.non]))]) (.dat (.lst R)) (QS name fD .non w q X Y [(bC,.dat (.int (Int.ofNat k))),(bM,.dat (.str [a])),(bE,.dat (.str (aE (cut w none (some (Int.ofNat k)))))),(bF,.dat (.tup [.str (aE (cut w none (some (Int.ofNat k)))),.non]))]))(o2:CallOk z.c 1 829 [.dat (.str (cut w none (some (Int.ofNat k))))] [] (.dat (.str (aE (cut w none (some (Int.ofNat k)))))) [])(o3:(∀ hp,bZ z.c 2 hp getItem z.c.VT (.dat (.str ([q]++w++[q]))) (.dat (.int (Int.ofNat k))) (.dat (.str [a])) hp)):RX z.c kA.names 2 ⟨2,[]⟩ (QU name fD .non w q X Y [(bC,.dat (.int (Int.ofNat k))),(bM,v1),(bE,v2),(bF,v3)]) lU.b .next (QS name fD .non w q (bO X (.tup [.str [a],.lst R])) Y [(bC,.dat (.int (Int.ofNat k))),(bM,.dat (.str [a])),(bE,.dat (.str (aE (cut w none (some (Int.ofNat k)))))),(bF,.dat (.tup [.str (aE (cut w none (some (Int.ofNat k)))),.non]))]):=
 z.useX (hs:=[.sub 1274015044 (.dat (.str [a])),.tst 1275011025 false,.cal 829 1 [] (.dat (.str (aE (cut w none (some (Int.ofNat k)))))) [],.cll 839 1 (.dat (.lst R)) (QS name fD .non w q X Y [(bC,.dat (.int (Int.ofNat k))),(bM,.dat (.str [a])),(bE,.dat (.str (aE (cut w none (some (Int.ofNat k)))))),(bF,.dat (.tup [.str (aE (cut w none (some (Int.ofNat k)))),.non]))])]) (g:=cg [(true,Nat.ble X.length lim),(true,Nat.ble (Y.length+1) lim),(true,Nat.ble w.length lim),(false,nb [a] [0]),(true,Nat.ble (w.length+1+1) lim),(true,Nat.ble (1+w.length) lim)]) (aA h7 (aA h6 (aA h5 (aA h3 (aA h2 (aA h1 aH)))))) (an o1 (an o2 (an o3 trivial))) (by kernel_rfl)
theorem Im {R:List D}{v1 v2 v3:V}{l:Nm}(h1:Nat.ble (1+w.length) lim=true)(h2:Nat.ble (w.length+1+1) lim=true)(h3:nb [a] [0]=false)(h5:Nat.ble w.length lim=true)(h6:Nat.ble (Y.length+1) lim=true)(h7:Nat.ble X.length lim=true)(o1:CallOk z.c 1 839 [.ref 4,.dat (.tup [.str eA,.str name,fD,.str (aE (cut w none (some (Int.ofNat k)))),.boo false])] (QS name fD (.str l) w q X Y [(bC,.dat (.int (Int.ofNat k))),(bM,.dat (.str [a])),(bE,.dat (.str (aE (cut w none (some (Int.ofNat k)))))),(bF,.dat (.tup [fD,.str (aE (cut w none (some (Int.ofNat k))))]))]) (.dat (.lst R)) (QS name fD (.str l) w q X Y [(bC,.dat (.int (Int.ofNat k))),(bM,.dat (.str [a])),(bE,.dat (.str (aE (cut w none (some (Int.ofNat k)))))),(bF,.dat (.tup [fD,.str (aE (cut w none (some (Int.ofNat k))))]))]))(o2:CallOk z.c 1 829 [.dat (.str (cut w none (some (Int.ofNat k))))] [] (.dat (.str (aE (cut w none (some (Int.ofNat k)))))) [])(o3:(∀ hp,bZ z.c 2 hp getItem z.c.VT (.dat (.str ([q]++w++[q]))) (.dat (.int (Int.ofNat k))) (.dat (.str [a])) hp)):RX z.c kA.names 2 ⟨2,[]⟩ (QU name fD (.str l) w q X Y [(bC,.dat (.int (Int.ofNat k))),(bM,v1),(bE,v2),(bF,v3)]) lU.b .next (QS name fD (.str l) w q (bO X (.tup [.str [a],.lst R])) Y [(bC,.dat (.int (Int.ofNat k))),(bM,.dat (.str [a])),(bE,.dat (.str (aE (cut w none (some (Int.ofNat k)))))),(bF,.dat (.tup [fD,.str (aE (cut w none (some (Int.ofNat k))))]))]):=
 z.useX (hs:=[.sub 1274015044 (.dat (.str [a])),.tst 1275011025 false,.cal 829 1 [] (.dat (.str (aE (cut w none (some (Int.ofNat k)))))) [],.cll 839 1 (.dat (.lst R)) (QS name fD (.str l) w q X Y [(bC,.dat (.int (Int.ofNat k))),(bM,.dat (.str [a])),(bE,.dat (.str (aE (cut w none (some (Int.ofNat k)))))),(bF,.dat (.tup [fD,.str (aE (cut w none (some (Int.ofNat k))))]))])]) (g:=cg [(true,Nat.ble X.length lim),(true,Nat.ble (Y.length+1) lim),(true,Nat.ble w.length lim),(false,nb [a] [0]),(true,Nat.ble (w.length+1+1) lim),(true,Nat.ble (1+w.length) lim)]) (aA h7 (aA h6 (aA h5 (aA h3 (aA h2 (aA h1 aH)))))) (an o1 (an o2 (an o3 trivial))) (by kernel_rfl)
theorem Mj {lD:D}{P T:List D}{Z:List V}{v1 v2 v3:D}:Gc 3 (QU name fD lD w q (dl P) (dl T) [(bC,.dat (.int (Int.ofNat k))),(bM,.dat v1),(bE,.dat v2),(bF,.dat v3)]++[.lst [.dat (.str aY)],.lst Z]) (QU name fD lD w q (dl P) (dl T) [(bC,.dat (.int (Int.ofNat k))),(bM,.dat v1),(bE,.dat v2),(bF,.dat v3)]):=by
 have a0:=cP (cA [0,1,2]) P
 have b0:=cP (cA [0,1,2]) T
 have a1:=cF (kr [0,1,2]) P
 have b1:=cF (kr [0,1,2]) T
 generalize dl P=X at *
 generalize dl T=Y at *
 have e1:cL [0,1,2] (QU name fD lD w q X Y [(bC,.dat (.int (Int.ofNat k))),(bM,.dat v1),(bE,.dat v2),(bF,.dat v3)]++[.lst [.dat (.str aY)],.lst Z])=(X.all (V.cl (cA [0,1,2]))&&(Y.all (V.cl (cA [0,1,2]))&&true)):=by kernel_rfl
 have e2:kept [0,1,2] (QU name fD lD w q X Y [(bC,.dat (.int (Int.ofNat k))),(bM,.dat v1),(bE,.dat v2),(bF,.dat v3)]++[.lst [.dat (.str aY)],.lst Z])=QU name fD lD w q (X.map (V.ren (kr [0,1,2]))) (Y.map (V.ren (kr [0,1,2]))) [(bC,.dat (.int (Int.ofNat k))),(bM,.dat v1),(bE,.dat v2),(bF,.dat v3)]:=by kernel_rfl
 exact mR (τ:=[]) (by kernel_rfl) (e1.trans (by rw[a0,b0];rfl)) (e2.trans (by rw[a1,b1]))
theorem wE {lD:D}{P:List D}{T:List Nm}{it:D}{eo:List (Nm×V)}(h:T.length≤1000):CallOk z.c 1 839 [.ref 4,.dat it] (QS name fD lD w q (dl P) (dl (aB T)) eo) (.dat (.lst (b8 (T++[aY]) it))) (QS name fD lD w q (dl P) (dl (aB T)) eo):=by
 have e:bO (dl (aB T)) (.str aY)=dl (aB (T++[aY])):=(cQ T aY).symm
 unfold QS
 rw[e]
 exact eS (c:=z.c) (hp:=QU name fD lD w q (dl P) (dl (aB T)) eo++[.lst [.dat (.str aY)],.lst (dl (aB (T++[aY])))]) (l:=4) (d:=.lst (b8 (T++[aY]) it)) (ds:=[it]) (X:=aB (T++[aY])) (Y:=aB (T++[aY])) rfl (iV z (by rw[List.length_append];exact Nat.le_trans (Nat.succ_le_succ h) (by decide)))
end
end
section
section
variable (z:c8){name w:Nm}{first last:Option Nm}{q k a:Nat}{P:List b9}{T:List Nm}
noncomputable abbrev Ua (k:Nat):List (Nm×V):=[(bC,.dat (.int (Int.ofNat k)))]
noncomputable abbrev Ry (k:Nat)(a b c:D):List (Nm×V):=[(bC,.dat (.int (Int.ofNat k))),(bM,.dat a),(bE,.dat b),(bF,.dat c)]
inductive oQ (k:Nat):List (Nm×V)→Prop
 |one:oQ k (Ua k)
 |four (a b c:D):oQ k (Ry k a b c)
noncomputable abbrev QE (name:Nm)(first last:Option Nm)(w:Nm)(q:Nat)(P:List b9)(T:List Nm)(eo:List (Nm×V)):List O:=QU name (j9 first) (j9 last) w q (dl (aF P)) (dl (aB T)) eo
inductive QuoR (z:c8) (name:Nm) (first last:Option Nm) (w:Nm) (q k:Nat) (hp:List O) (P:List b9) (T:List Nm):Prop
 |mk (hp2:List O) (a b c:D) (h:RX z.c kA.names 2 ⟨2,[]⟩ hp lU.b .next hp2) (g:Gc 3 hp2 (QE name first last w q P T (Ry k a b c)))
theorem iN {hp:List O}{R:List D}{kn:D}{T':List Nm}{G:Nm}(hR:R=b8 (T'++[aY]) (sN name first last G).toD)(h:RX z.c kA.names 2 ⟨2,[]⟩ hp lU.b .next (QS name (j9 first) (j9 last) w q (bO (dl (aF P)) (.tup [.str [a],.lst R])) (dl (aB T')) (Ry k (.str [a]) (.str G) kn))):
  QuoR z name first last w q k hp (P++[(a,bT (T'++[aY]) (sN name first last G))]) T':=by
 refine .mk _ (.str [a]) (.str G) kn h ?_
 have e:bO (dl (aF P)) (.tup [.str [a],.lst R])=dl (aF (P++[(a,bT (T'++[aY]) (sN name first last G))])):=by
  rw[eC,hR,fH];rfl
 rw[e]
 exact Mj
theorem Eu {eo:List (Nm×V)}(he:oQ k eo)(ha:([q]++w++[q])[k]? =some a)(hw:w.length≤100)(hk:k≤1000)(hP:P.length≤1000)(hT:T.length≤900):
  QuoR z name first last w q k (QE name first last w q P T eo) (P++[(a,bT ((bif nb [a] [0]then T++[bY]else T)++[aY]) (sN name first last (aE (cut w none (some (Int.ofNat k))))))]) (bif nb [a] [0]then T++[bY]else T):=by
 have h1:Nat.ble (1+w.length) lim=true:=fI (m:=101) (by omega) rfl
 have h2:Nat.ble (w.length+1+1) lim=true:=fI (m:=102) (by omega) rfl
 have h4:Nat.ble (dl (aB T)).length lim=true:=fI (m:=900) (by rw[cY];exact hT) rfl
 have h5:Nat.ble w.length lim=true:=lb hw rfl
 have h7:Nat.ble (dl (aF P)).length lim=true:=fI (m:=1000) (by rw[cG];exact hP) rfl
 have h6:∀ T':List Nm,T'.length≤901→Nat.ble ((dl (aB T')).length+1) lim=true:=fun T' h=>fI (m:=902) (by rw[cY];exact Nat.succ_le_succ h) rfl
 have o2:CallOk z.c 1 829 [.dat (.str (cut w none (some (Int.ofNat k))))] [] (.dat (.str (aE (cut w none (some (Int.ofNat k)))))) []:=iU z (Nat.le_trans (hI _ _ _) (Nat.le_trans hw (by decide)))
 have o3:∀ hp,bZ z.c 2 hp getItem z.c.VT (.dat (.str ([q]++w++[q]))) (.dat (.int (Int.ofNat k))) (.dat (.str [a])) hp:=fun hp=>jU (sL ha) (fI (m:=1000) hk rfl)
 have hs:bO (dl (aB T)) (.str bY)=dl (aB (T++[bY])):=(cQ T bY).symm
 have hT1:(T++[bY]).length≤901:=by rw[List.length_append];exact Nat.succ_le_succ hT
 have h8:Nat.ble ((bO (dl (aB T)) (.str bY)).length+1) lim=true:=by rw[hs];exact h6 _ hT1
 have o1:∀ (it:D) (eo:List (Nm×V)) (fD lD:D),CallOk z.c 1 839 [.ref 4,.dat it] (QS name fD lD w q (dl (aF P)) (dl (aB T)) eo) (.dat (.lst (b8 (T++[aY]) it))) (QS name fD lD w q (dl (aF P)) (dl (aB T)) eo):=fun it eo fD lD=>wE z (Nat.le_trans hT (by decide))
 have o5:∀ (it:D) (eo:List (Nm×V)) (fD lD:D),CallOk z.c 1 839 [.ref 4,.dat it] (QS name fD lD w q (dl (aF P)) (bO (dl (aB T)) (.str bY)) eo) (.dat (.lst (b8 (T++[bY]++[aY]) it))) (QS name fD lD w q (dl (aF P)) (bO (dl (aB T)) (.str bY)) eo):=fun it eo fD lD=>by rw[hs];exact wE z (Nat.le_trans hT1 (by decide))
 cases h3:nb [a] [0]with
 |true=>
  show QuoR _ _ _ _ _ _ _ _ (P++[(a,bT (T++[bY]++[aY]) _)]) (T++[bY])
  cases last with
  |none=>cases he with
   |one=>exact iN z rfl (hs▸Ie z h1 h2 h3 h4 h5 h8 h7 (o5 _ _ _ _) o2 o3)
   |four x y u=>exact iN z rfl (hs▸Ij z h1 h2 h3 h4 h5 h8 h7 (o5 _ _ _ _) o2 o3)
  |some l=>cases he with
   |one=>exact iN z rfl (hs▸Ig z h1 h2 h3 h4 h5 h8 h7 (o5 _ _ _ _) o2 o3)
   |four x y u=>exact iN z rfl (hs▸Ik z h1 h2 h3 h4 h5 h8 h7 (o5 _ _ _ _) o2 o3)
 |false=>
  show QuoR _ _ _ _ _ _ _ _ (P++[(a,bT (T++[aY]) _)]) T
  cases last with
  |none=>cases he with
   |one=>exact iN z rfl (Ih z h1 h2 h3 h5 (h6 T (Nat.le_trans hT (by decide))) h7 (o1 _ _ _ _) o2 o3)
   |four x y u=>exact iN z rfl (Il z h1 h2 h3 h5 (h6 T (Nat.le_trans hT (by decide))) h7 (o1 _ _ _ _) o2 o3)
  |some l=>cases he with
   |one=>exact iN z rfl (Ii z h1 h2 h3 h5 (h6 T (Nat.le_trans hT (by decide))) h7 (o1 _ _ _ _) o2 o3)
   |four x y u=>exact iN z rfl (Im z h1 h2 h3 h5 (h6 T (Nat.le_trans hT (by decide))) h7 (o1 _ _ _ _) o2 o3)
end
end
section
theorem jH (f:Nm)(T:List Nm):∀ k,(cD f T k).length≤T.length+k
 |0=>Nat.le_refl _
 |k+1=>by
  have ih:=jH f T k
  show(match f[k]? with|some a=>bif nb [a] [0]then cD f T k++[bY]else cD f T k|none=>cD f T k).length≤_
  cases f[k]? with
  |none=>exact Nat.le_trans ih (Nat.le_succ _)
  |some a=>
   show(bif nb [a] [0]then cD f T k++[bY]else cD f T k).length≤_
   cases nb [a] [0]with
   |true=>show(cD f T k++[bY]).length≤_;rw[List.length_append];exact Nat.succ_le_succ ih
   |false=>exact Nat.le_trans ih (Nat.le_succ _)
theorem qO (name:Nm)(first last:Option Nm)(w f:Nm)(T:List Nm):∀ k,(jV name first last w f T k).length≤k
 |0=>Nat.le_refl _
 |k+1=>by
  show(jV name first last w f T k++_).length≤_
  rw[List.length_append]
  refine Nat.add_le_add (qO name first last w f T k) ?_
  cases f[k]? <;>simp
section
variable (z:c8){name w:Nm}{first last:Option Nm}{q:Nat}{P:List b9}{T:List Nm}
noncomputable def Mk (name:Nm)(first last:Option Nm)(w:Nm)(q:Nat)(P:List b9)(T:List Nm)(k:Nat)(hp:List O):Prop:=
 ∃ eo,(eo=[]∨∃ j a b c,eo=Ry j a b c)∧hp=QE name first last w q (P++jV name first last w ([q]++w++[q]) T k) (cD ([q]++w++[q]) T k) eo
theorem wF:([q]++w++[q]).length=w.length+2:=by rw[List.length_append,List.length_append];show 1+w.length+1=_;omega
theorem Ew (hw:w.length≤100)(hP:P.length≤500)(hT:T.length≤500)(k:Nat)(y:V)(hp:List O)(hk:(fN 0 (w.length+2) 0)[k]? =some y)(p:Mk name first last w q P T k hp):
  ∃ hp1 hp2 hp3,RG z.c kA.names 2 ⟨2,[]⟩ hp lU.g y hp1∧RX z.c kA.names 2 ⟨2,[]⟩ hp1 lU.b .next hp2∧Gc 3 hp2 hp3∧Mk name first last w q P T (k+1) hp3:=by
 obtain⟨eo,he,rfl⟩:=p
 rw[uF]at hk
 by_cases lt:k<w.length+2
 ·rw[if_pos lt]at hk
  cases hk
  have ha:([q]++w++[q])[k]? =some (([q]++w++[q])[k]'(by rw[wF];exact lt)):=List.getElem?_eq_getElem _
  generalize ([q]++w++[q])[k]'(by rw[wF];exact lt)=a at ha
  have l1:=qO name first last w ([q]++w++[q]) T k
  have l2:=jH ([q]++w++[q]) T k
  have eE:P++jV name first last w ([q]++w++[q]) T (k+1)=P++jV name first last w ([q]++w++[q]) T k++[(a,bT ((bif nb [a] [0]then cD ([q]++w++[q]) T k++[bY]else cD ([q]++w++[q]) T k)++[aY]) (sN name first last (aE (cut w none (some (Int.ofNat k))))))]:=by
   rw[jV,cD,ha];exact(List.append_assoc P _ _).symm
  have eT:cD ([q]++w++[q]) T (k+1)=(bif nb [a] [0]then cD ([q]++w++[q]) T k++[bY]else cD ([q]++w++[q]) T k):=by rw[cD,ha]
  have b:∃ e1,oQ k e1∧RG z.c kA.names 2 ⟨2,[]⟩ (QE name first last w q (P++jV name first last w ([q]++w++[q]) T k) (cD ([q]++w++[q]) T k) eo) lU.g (.dat (.int (Int.ofNat k))) (QE name first last w q (P++jV name first last w ([q]++w++[q]) T k) (cD ([q]++w++[q]) T k) e1):=by
   rcases he with rfl|⟨j,x,y,u,rfl⟩
   ·exact⟨_,.one,cM (by kernel_rfl) (by kernel_rfl)⟩
   ·exact⟨_,.four x y u,cM (by kernel_rfl) (by kernel_rfl)⟩
  obtain⟨e1,o,rg⟩:=b
  have t:=Eu z (name:=name) (first:=first) (last:=last) (P:=P++jV name first last w ([q]++w++[q]) T k) (T:=cD ([q]++w++[q]) T k) o ha hw (by omega) (by rw[List.length_append];omega) (by omega)
  exact match t with
   |.mk hp2 x y u h g=>⟨_,_,_,rg,h,g,_,.inr ⟨k,x,y,u,rfl⟩,by rw[eE,eT]⟩
 ·rw[if_neg lt]at hk;cases hk
theorem Qr {X Y:List D}{o:O}{d:D}:g5 2 [] [] (.dat d) [.lst (dl X),.lst (dl Y),o]=some (.dat d,[.lst (dl X),.lst (dl Y)]):=by
 have a0:=cP (cA [0,1]) X
 have b0:=cP (cA [0,1]) Y
 have a1:=cF (kr [0,1]) X
 have b1:=cF (kr [0,1]) Y
 generalize dl X=X at *
 generalize dl Y=Y at *
 have e3:cL [0,1] [.lst X,.lst Y,o]=(X.all (V.cl (cA [0,1]))&&(Y.all (V.cl (cA [0,1]))&&true)):=by kernel_rfl
 rw[a0,b0]at e3
 show(match true&&(true&&cL [0,1] [.lst X,.lst Y,o])with|true=>some (V.dat d,[O.lst (X.map (V.ren (kr [0,1]))),O.lst (Y.map (V.ren (kr [0,1])))])|false=>none)=_
 rw[e3,a1,b1];rfl
theorem Ey (hw:w.length≤100)(hP:P.length≤500)(hT:T.length≤500):CallOk z.c 3 888 [.ref 0,.ref 1,.dat (.str name),.dat (j9 first),.dat (j9 last),.dat (.str w),.dat (.str [q])] [.lst (dl (aF P)),.lst (dl (aB T))] (.dat (.str (aE w)))
  [.lst (dl (aF (P++jV name first last w ([q]++w++[q]) T (w.length+2)))),.lst (dl (aB (cD ([q]++w++[q]) T (w.length+2))))]:=by
 have h1:RE z.c kA.names 2 ⟨2,[]⟩ (QE name first last w q P T []) lU.i (.rng 0 (Int.ofNat (w.length+2))) (QE name first last w q P T []):=z.useE (hs:=[]) (g:=cg [(true,Nat.ble w.length lim)]) (aA (lb hw rfl) aH) trivial (by kernel_rfl)
 obtain⟨hp',h,eo,he,rfl⟩:=x6 (base:=3) (v:=.rng 0 (Int.ofNat (w.length+2))) (all:=fN 0 (w.length+2) 0) (Mk name first last w q P T) (fun k hp p=>by show some (fN 0 (gT 0 (Int.ofNat (w.length+2))) 0)=_;rw[show gT 0 (Int.ofNat (w.length+2))=w.length+2 by unfold gT;rw[Int.sub_zero];rfl]) (Ew z hw hP hT) (fN 0 (w.length+2) 0).length 0 (QE name first last w q P T []) (Nat.zero_add _) ⟨[],.inl rfl,by rw[jV,List.append_nil];rfl⟩
 rw[jT]at h
 have h2:=kJ (p:=lU.p) (fun env x=>dA (by kernel_rfl) env x) h1 (fI (m:=102) (Nat.succ_le_succ (Nat.succ_le_succ hw)) rfl) rfl h
 generalize P++jV name first last w ([q]++w++[q]) T (w.length+2)=P' at *
 generalize cD ([q]++w++[q]) T (w.length+2)=T' at *
 have hm:=iU z (w:=w) (Nat.le_trans hw (by decide))
 have b:RX z.c kA.names 2 ⟨2,[]⟩ (QE name first last w q P T []) kA.body (.ret (.dat (.str (aE w)))) (QE name first last w q P' T' eo):=z.useX (hs:=[.stm 1273 .next (QE name first last w q P' T' eo),.cal 829 1 [] (.dat (.str (aE w))) []]) (g:=true) rfl (an hm (an h2 trivial)) (by kernel_rfl)
 have h3:CallOk z.c 3 888 [.ref 0,.ref 1,.dat (.str name),.dat (j9 first),.dat (j9 last),.dat (.str w),.dat (.str [q])] [.lst (dl (aF P)),.lst (dl (aB T))] (.dat (.str (aE w))) (QE name first last w q P' T' eo):=iL (F:=kA) (by kernel_rfl) (by kernel_rfl) (by kernel_rfl) (by kernel_rfl) b
 exact dF h3 Qr
end
end
section
noncomputable def fB:Nm:=Uo
noncomputable def iG:Nm:=VD
noncomputable def Qs:Nm:=[98,97,100]
noncomputable def Io:Nm:=[101,97,114,108,121]
noncomputable def kU:Nm:=[103,97,112]
noncomputable def dB:List Nm:=[[100,111,99,116,121,112,101],[68,79,67,84,89,80,69],[100,79,99,84,121,80,101]]
noncomputable def lV:List Nm:=[[32],[10,32],[]]
noncomputable abbrev cS:Nm:=fB
noncomputable def eH:List Item:=bT [cS] (.doc [] none none false)
noncomputable def Rz (word:Nm):Nat→List b9
 |0=>[]
 |k+1=>Rz word k++(match([33]++word)[k]? with|some a=>[(a,bI ([60,33]++cut word none (some (Int.ofNat k))))] |none=>[])
noncomputable def Ml (word gap:Nm):List b9:=(cut word (some 6) none++gap).map fun c=>(c,eH)
noncomputable def lN (word gap:Nm):List b9:=[(60,bI [60])]++Rz word 7++Ml word gap
noncomputable def j0 (gap:Nm):List Nm:=match gap with
 | []=>[iG]
 |_=>[]
noncomputable def cO:Fn:=kL k8 [41] []
noncomputable def FD:Fx:=⟨1,[(Qs,4),(Io,3),(iC,2)]⟩
noncomputable abbrev D0 (r:Nat)(X:List V):List O:=[.lst X,.fr [(uG,.dat (.int (Int.ofNat r))),(dP,.ref 0)],.cel none,.cel none,.cel none]
noncomputable abbrev D1 (r:Nat)(X:List V):List O:=[.lst X,.fr [(uG,.dat (.int (Int.ofNat r))),(dP,.ref 0),(fJ,.ref 5)],.cel none,.cel none,.cel none,.lst [],.lst (dl (aB dB))]
noncomputable abbrev D2 (r:Nat)(X:List V)(word gap:Nm):List O:=[.lst X,.fr [(uG,.dat (.int (Int.ofNat r))),(dP,.ref 0),(fJ,.ref 5),(aV,.ref 10),(kU,.dat (.str gap))],.cel (some (.dat (.str word))),.cel (some (.dat (aX eH))),.cel none,
 .lst (dl (aB (j0 gap))),.lst (dl (aB dB)),.lst [.dat (oF (60,bI [60]))],.lst (dl (aF (Rz word 7))),.gone,.lst (dl (aF (lN word gap))),.lst [.dat (.str cS)],.lst (dl (aB lV)),.lst (dl (aF (Ml word gap))),.gone]
section
variable (z:c8){r:Nat}{X:List V}{c0 c1 c2 c3 c4 c5 c6:Nat}
theorem Mm (hO:bZ z.c 7 (D1 r X) getItem z.c.VT (.ref 6) (.dat (.int (Int.fmod (Int.ofNat r) 3))) (.dat (.str [c0,c1,c2,c3,c4,c5,c6])) (D1 r X))(h2:(V.dat (.int (Int.fmod (Int.fdiv (Int.ofNat r) 3) 3)):V)=.dat (.int 0))(hd:(!Builtin.divisionGoesByPylong (Int.ofNat r) 3)=true)(hq:∀ k,k<7→CallOk z.c 2 860 [.dat (.str ([60,33]++(cut [c0,c1,c2,c3,c4,c5,c6] none (some (Int.ofNat k)))))] [] (.dat (aX (bI ([60,33]++(cut [c0,c1,c2,c3,c4,c5,c6] none (some (Int.ofNat k))))))) [])(hE:CallOk z.c 1 839 [.ref 0,.dat (Item.doc [] none none false).toD] [.lst [.dat (.str cS)]] (.dat (aX eH)) [.lst [.dat (.str cS)]]):RX z.c cO.names 7 FD (D0 r X) (cO.body.take 7) .next (D2 r X [c0,c1,c2,c3,c4,c5,c6] [32]):=
 z.useX (hs:=[.itm 1283011051 (.dat (.str [c0,c1,c2,c3,c4,c5,c6])),.cal 860 2 [] (.dat (aX (bI [60]))) [],.cal 860 2 [] (.dat (aX (bI ([60,33]++(cut [c0,c1,c2,c3,c4,c5,c6] none (some (Int.ofNat 0))))))) [],.cal 860 2 [] (.dat (aX (bI ([60,33]++(cut [c0,c1,c2,c3,c4,c5,c6] none (some (Int.ofNat 1))))))) [],.cal 860 2 [] (.dat (aX (bI ([60,33]++(cut [c0,c1,c2,c3,c4,c5,c6] none (some (Int.ofNat 2))))))) [],.cal 860 2 [] (.dat (aX (bI ([60,33]++(cut [c0,c1,c2,c3,c4,c5,c6] none (some (Int.ofNat 3))))))) [],.cal 860 2 [] (.dat (aX (bI ([60,33]++(cut [c0,c1,c2,c3,c4,c5,c6] none (some (Int.ofNat 4))))))) [],.cal 860 2 [] (.dat (aX (bI ([60,33]++(cut [c0,c1,c2,c3,c4,c5,c6] none (some (Int.ofNat 5))))))) [],.cal 860 2 [] (.dat (aX (bI ([60,33]++(cut [c0,c1,c2,c3,c4,c5,c6] none (some (Int.ofNat 6))))))) [],.cal 839 1 [11] (.dat (aX eH)) [.lst [.dat (.str cS)]],.val 1286027037 (.dat (.int 0))]) (g:=cg [(true,!Builtin.divisionGoesByPylong (Int.ofNat r) 3)]) (ob:=(V.dat (.int (Int.fmod (Int.fdiv (Int.ofNat r) 3) 3)):V)=.dat (.int 0)∧CallOk z.c 1 839 [.ref 0,.dat (Item.doc [] none none false).toD] [.lst [.dat (.str cS)]] (.dat (aX eH)) [.lst [.dat (.str cS)]]∧CallOk z.c 2 860 [.dat (.str ([60,33]++(cut [c0,c1,c2,c3,c4,c5,c6] none (some (Int.ofNat 6)))))] [] (.dat (aX (bI ([60,33]++(cut [c0,c1,c2,c3,c4,c5,c6] none (some (Int.ofNat 6))))))) []∧CallOk z.c 2 860 [.dat (.str ([60,33]++(cut [c0,c1,c2,c3,c4,c5,c6] none (some (Int.ofNat 5)))))] [] (.dat (aX (bI ([60,33]++(cut [c0,c1,c2,c3,c4,c5,c6] none (some (Int.ofNat 5))))))) []∧CallOk z.c 2 860 [.dat (.str ([60,33]++(cut [c0,c1,c2,c3,c4,c5,c6] none (some (Int.ofNat 4)))))] [] (.dat (aX (bI ([60,33]++(cut [c0,c1,c2,c3,c4,c5,c6] none (some (Int.ofNat 4))))))) []∧CallOk z.c 2 860 [.dat (.str ([60,33]++(cut [c0,c1,c2,c3,c4,c5,c6] none (some (Int.ofNat 3)))))] [] (.dat (aX (bI ([60,33]++(cut [c0,c1,c2,c3,c4,c5,c6] none (some (Int.ofNat 3))))))) []∧CallOk z.c 2 860 [.dat (.str ([60,33]++(cut [c0,c1,c2,c3,c4,c5,c6] none (some (Int.ofNat 2)))))] [] (.dat (aX (bI ([60,33]++(cut [c0,c1,c2,c3,c4,c5,c6] none (some (Int.ofNat 2))))))) []∧CallOk z.c 2 860 [.dat (.str ([60,33]++(cut [c0,c1,c2,c3,c4,c5,c6] none (some (Int.ofNat 1)))))] [] (.dat (aX (bI ([60,33]++(cut [c0,c1,c2,c3,c4,c5,c6] none (some (Int.ofNat 1))))))) []∧CallOk z.c 2 860 [.dat (.str ([60,33]++(cut [c0,c1,c2,c3,c4,c5,c6] none (some (Int.ofNat 0)))))] [] (.dat (aX (bI ([60,33]++(cut [c0,c1,c2,c3,c4,c5,c6] none (some (Int.ofNat 0))))))) []∧CallOk z.c 2 860 [.dat (.str [60])] [] (.dat (aX (bI [60]))) []∧bZ z.c 7 (D1 r X) getItem z.c.VT (.ref 6) (.dat (.int (Int.fmod (Int.ofNat r) 3))) (.dat (.str [c0,c1,c2,c3,c4,c5,c6])) (D1 r X)∧True) (aA hd aH) ⟨h2,hE,hq 6 (by decide),hq 5 (by decide),hq 4 (by decide),hq 3 (by decide),hq 2 (by decide),hq 1 (by decide),hq 0 (by decide),qJ z,hO,trivial⟩ (by kernel_rfl)
theorem Mn (hO:bZ z.c 7 (D1 r X) getItem z.c.VT (.ref 6) (.dat (.int (Int.fmod (Int.ofNat r) 3))) (.dat (.str [c0,c1,c2,c3,c4,c5,c6])) (D1 r X))(h2:(V.dat (.int (Int.fmod (Int.fdiv (Int.ofNat r) 3) 3)):V)=.dat (.int 1))(hd:(!Builtin.divisionGoesByPylong (Int.ofNat r) 3)=true)(hq:∀ k,k<7→CallOk z.c 2 860 [.dat (.str ([60,33]++(cut [c0,c1,c2,c3,c4,c5,c6] none (some (Int.ofNat k)))))] [] (.dat (aX (bI ([60,33]++(cut [c0,c1,c2,c3,c4,c5,c6] none (some (Int.ofNat k))))))) [])(hE:CallOk z.c 1 839 [.ref 0,.dat (Item.doc [] none none false).toD] [.lst [.dat (.str cS)]] (.dat (aX eH)) [.lst [.dat (.str cS)]]):RX z.c cO.names 7 FD (D0 r X) (cO.body.take 7) .next (D2 r X [c0,c1,c2,c3,c4,c5,c6] [10,32]):=
 z.useX (hs:=[.itm 1283011051 (.dat (.str [c0,c1,c2,c3,c4,c5,c6])),.cal 860 2 [] (.dat (aX (bI [60]))) [],.cal 860 2 [] (.dat (aX (bI ([60,33]++(cut [c0,c1,c2,c3,c4,c5,c6] none (some (Int.ofNat 0))))))) [],.cal 860 2 [] (.dat (aX (bI ([60,33]++(cut [c0,c1,c2,c3,c4,c5,c6] none (some (Int.ofNat 1))))))) [],.cal 860 2 [] (.dat (aX (bI ([60,33]++(cut [c0,c1,c2,c3,c4,c5,c6] none (some (Int.ofNat 2))))))) [],.cal 860 2 [] (.dat (aX (bI ([60,33]++(cut [c0,c1,c2,c3,c4,c5,c6] none (some (Int.ofNat 3))))))) [],.cal 860 2 [] (.dat (aX (bI ([60,33]++(cut [c0,c1,c2,c3,c4,c5,c6] none (some (Int.ofNat 4))))))) [],.cal 860 2 [] (.dat (aX (bI ([60,33]++(cut [c0,c1,c2,c3,c4,c5,c6] none (some (Int.ofNat 5))))))) [],.cal 860 2 [] (.dat (aX (bI ([60,33]++(cut [c0,c1,c2,c3,c4,c5,c6] none (some (Int.ofNat 6))))))) [],.cal 839 1 [11] (.dat (aX eH)) [.lst [.dat (.str cS)]],.val 1286027037 (.dat (.int 1))]) (g:=cg [(true,!Builtin.divisionGoesByPylong (Int.ofNat r) 3)]) (ob:=(V.dat (.int (Int.fmod (Int.fdiv (Int.ofNat r) 3) 3)):V)=.dat (.int 1)∧CallOk z.c 1 839 [.ref 0,.dat (Item.doc [] none none false).toD] [.lst [.dat (.str cS)]] (.dat (aX eH)) [.lst [.dat (.str cS)]]∧CallOk z.c 2 860 [.dat (.str ([60,33]++(cut [c0,c1,c2,c3,c4,c5,c6] none (some (Int.ofNat 6)))))] [] (.dat (aX (bI ([60,33]++(cut [c0,c1,c2,c3,c4,c5,c6] none (some (Int.ofNat 6))))))) []∧CallOk z.c 2 860 [.dat (.str ([60,33]++(cut [c0,c1,c2,c3,c4,c5,c6] none (some (Int.ofNat 5)))))] [] (.dat (aX (bI ([60,33]++(cut [c0,c1,c2,c3,c4,c5,c6] none (some (Int.ofNat 5))))))) []∧CallOk z.c 2 860 [.dat (.str ([60,33]++(cut [c0,c1,c2,c3,c4,c5,c6] none (some (Int.ofNat 4)))))] [] (.dat (aX (bI ([60,33]++(cut [c0,c1,c2,c3,c4,c5,c6] none (some (Int.ofNat 4))))))) []∧CallOk z.c 2 860 [.dat (.str ([60,33]++(cut [c0,c1,c2,c3,c4,c5,c6] none (some (Int.ofNat 3)))))] [] (.dat (aX (bI ([60,33]++(cut [c0,c1,c2,c3,c4,c5,c6] none (some (Int.ofNat 3))))))) []∧CallOk z.c 2 860 [.dat (.str ([60,33]++(cut [c0,c1,c2,c3,c4,c5,c6] none (some (Int.ofNat 2)))))] [] (.dat (aX (bI ([60,33]++(cut [c0,c1,c2,c3,c4,c5,c6] none (some (Int.ofNat 2))))))) []∧CallOk z.c 2 860 [.dat (.str ([60,33]++(cut [c0,c1,c2,c3,c4,c5,c6] none (some (Int.ofNat 1)))))] [] (.dat (aX (bI ([60,33]++(cut [c0,c1,c2,c3,c4,c5,c6] none (some (Int.ofNat 1))))))) []∧CallOk z.c 2 860 [.dat (.str ([60,33]++(cut [c0,c1,c2,c3,c4,c5,c6] none (some (Int.ofNat 0)))))] [] (.dat (aX (bI ([60,33]++(cut [c0,c1,c2,c3,c4,c5,c6] none (some (Int.ofNat 0))))))) []∧CallOk z.c 2 860 [.dat (.str [60])] [] (.dat (aX (bI [60]))) []∧bZ z.c 7 (D1 r X) getItem z.c.VT (.ref 6) (.dat (.int (Int.fmod (Int.ofNat r) 3))) (.dat (.str [c0,c1,c2,c3,c4,c5,c6])) (D1 r X)∧True) (aA hd aH) ⟨h2,hE,hq 6 (by decide),hq 5 (by decide),hq 4 (by decide),hq 3 (by decide),hq 2 (by decide),hq 1 (by decide),hq 0 (by decide),qJ z,hO,trivial⟩ (by kernel_rfl)
theorem Mo (hO:bZ z.c 7 (D1 r X) getItem z.c.VT (.ref 6) (.dat (.int (Int.fmod (Int.ofNat r) 3))) (.dat (.str [c0,c1,c2,c3,c4,c5,c6])) (D1 r X))(h2:(V.dat (.int (Int.fmod (Int.fdiv (Int.ofNat r) 3) 3)):V)=.dat (.int 2))(hd:(!Builtin.divisionGoesByPylong (Int.ofNat r) 3)=true)(hq:∀ k,k<7→CallOk z.c 2 860 [.dat (.str ([60,33]++(cut [c0,c1,c2,c3,c4,c5,c6] none (some (Int.ofNat k)))))] [] (.dat (aX (bI ([60,33]++(cut [c0,c1,c2,c3,c4,c5,c6] none (some (Int.ofNat k))))))) [])(hE:CallOk z.c 1 839 [.ref 0,.dat (Item.doc [] none none false).toD] [.lst [.dat (.str cS)]] (.dat (aX eH)) [.lst [.dat (.str cS)]]):RX z.c cO.names 7 FD (D0 r X) (cO.body.take 7) .next (D2 r X [c0,c1,c2,c3,c4,c5,c6] []):=
 z.useX (hs:=[.itm 1283011051 (.dat (.str [c0,c1,c2,c3,c4,c5,c6])),.cal 860 2 [] (.dat (aX (bI [60]))) [],.cal 860 2 [] (.dat (aX (bI ([60,33]++(cut [c0,c1,c2,c3,c4,c5,c6] none (some (Int.ofNat 0))))))) [],.cal 860 2 [] (.dat (aX (bI ([60,33]++(cut [c0,c1,c2,c3,c4,c5,c6] none (some (Int.ofNat 1))))))) [],.cal 860 2 [] (.dat (aX (bI ([60,33]++(cut [c0,c1,c2,c3,c4,c5,c6] none (some (Int.ofNat 2))))))) [],.cal 860 2 [] (.dat (aX (bI ([60,33]++(cut [c0,c1,c2,c3,c4,c5,c6] none (some (Int.ofNat 3))))))) [],.cal 860 2 [] (.dat (aX (bI ([60,33]++(cut [c0,c1,c2,c3,c4,c5,c6] none (some (Int.ofNat 4))))))) [],.cal 860 2 [] (.dat (aX (bI ([60,33]++(cut [c0,c1,c2,c3,c4,c5,c6] none (some (Int.ofNat 5))))))) [],.cal 860 2 [] (.dat (aX (bI ([60,33]++(cut [c0,c1,c2,c3,c4,c5,c6] none (some (Int.ofNat 6))))))) [],.cal 839 1 [11] (.dat (aX eH)) [.lst [.dat (.str cS)]],.val 1286027037 (.dat (.int 2))]) (g:=cg [(true,!Builtin.divisionGoesByPylong (Int.ofNat r) 3)]) (ob:=(V.dat (.int (Int.fmod (Int.fdiv (Int.ofNat r) 3) 3)):V)=.dat (.int 2)∧CallOk z.c 1 839 [.ref 0,.dat (Item.doc [] none none false).toD] [.lst [.dat (.str cS)]] (.dat (aX eH)) [.lst [.dat (.str cS)]]∧CallOk z.c 2 860 [.dat (.str ([60,33]++(cut [c0,c1,c2,c3,c4,c5,c6] none (some (Int.ofNat 6)))))] [] (.dat (aX (bI ([60,33]++(cut [c0,c1,c2,c3,c4,c5,c6] none (some (Int.ofNat 6))))))) []∧CallOk z.c 2 860 [.dat (.str ([60,33]++(cut [c0,c1,c2,c3,c4,c5,c6] none (some (Int.ofNat 5)))))] [] (.dat (aX (bI ([60,33]++(cut [c0,c1,c2,c3,c4,c5,c6] none (some (Int.ofNat 5))))))) []∧CallOk z.c 2 860 [.dat (.str ([60,33]++(cut [c0,c1,c2,c3,c4,c5,c6] none (some (Int.ofNat 4)))))] [] (.dat (aX (bI ([60,33]++(cut [c0,c1,c2,c3,c4,c5,c6] none (some (Int.ofNat 4))))))) []∧CallOk z.c 2 860 [.dat (.str ([60,33]++(cut [c0,c1,c2,c3,c4,c5,c6] none (some (Int.ofNat 3)))))] [] (.dat (aX (bI ([60,33]++(cut [c0,c1,c2,c3,c4,c5,c6] none (some (Int.ofNat 3))))))) []∧CallOk z.c 2 860 [.dat (.str ([60,33]++(cut [c0,c1,c2,c3,c4,c5,c6] none (some (Int.ofNat 2)))))] [] (.dat (aX (bI ([60,33]++(cut [c0,c1,c2,c3,c4,c5,c6] none (some (Int.ofNat 2))))))) []∧CallOk z.c 2 860 [.dat (.str ([60,33]++(cut [c0,c1,c2,c3,c4,c5,c6] none (some (Int.ofNat 1)))))] [] (.dat (aX (bI ([60,33]++(cut [c0,c1,c2,c3,c4,c5,c6] none (some (Int.ofNat 1))))))) []∧CallOk z.c 2 860 [.dat (.str ([60,33]++(cut [c0,c1,c2,c3,c4,c5,c6] none (some (Int.ofNat 0)))))] [] (.dat (aX (bI ([60,33]++(cut [c0,c1,c2,c3,c4,c5,c6] none (some (Int.ofNat 0))))))) []∧CallOk z.c 2 860 [.dat (.str [60])] [] (.dat (aX (bI [60]))) []∧bZ z.c 7 (D1 r X) getItem z.c.VT (.ref 6) (.dat (.int (Int.fmod (Int.ofNat r) 3))) (.dat (.str [c0,c1,c2,c3,c4,c5,c6])) (D1 r X)∧True) (aA hd aH) ⟨h2,hE,hq 6 (by decide),hq 5 (by decide),hq 4 (by decide),hq 3 (by decide),hq 2 (by decide),hq 1 (by decide),hq 0 (by decide),qJ z,hO,trivial⟩ (by kernel_rfl)
end
end
section
noncomputable def kB:Nm:=VG
noncomputable def bK (w:Nm):Nm:=dL [0] [65533] 0 (gJ w)
noncomputable def fV:List Nm:=[[104,116,109,108],[72,84,109,108],[120],[97,0,66]]
noncomputable def Ip:List Nm:=[[104],[104,116],[104,116,109],[104,116,109,108],[72],[72,84],[72,84,109],[72,84,109,108],[120],[97],[97,0],[97,0,66]]
noncomputable def rJ:ForI:=vR (nW cO.body 8)
noncomputable abbrev dK:Nm:=kB
noncomputable abbrev Am (r:Nat)(w:Nm)(X Y:List V)(eo:List (Nm×V))(Z:List V)(c1 c2:D)(gap:Nm):List O:=
 [.lst X,.fr ([(uG,.dat (.int (Int.ofNat r))),(dP,.ref 0),(fJ,.ref 5),(aV,.ref 6),(kU,.dat (.str gap)),(cK,.dat (.str w))]++eo),.cel (some (.dat c1)),.cel (some (.dat c2)),.cel none,.lst Y,.lst Z]
noncomputable abbrev NS (r:Nat)(w:Nm)(X Y:List V)(eo:List (Nm×V))(Z:List V)(c1 c2:D)(gap:Nm):List O:=Am r w X Y eo Z c1 c2 gap++[.lst [.dat (.str dK)],.lst (bO Y (.str dK))]
section
variable (z:c8){r k a:Nat}{X Y Z:List V}{w gap:Nm}{c1 c2:D}
theorem Mp:AllP (fun w=>CallOk z.c 4 834 [.dat (.str w)] [] (.dat (.str (bK w))) []) Ip:=⟨z.use (hs:=[]) (o:=.auto) (g:=true) rfl trivial (by kernel_rfl),z.use (hs:=[]) (o:=.auto) (g:=true) rfl trivial (by kernel_rfl),z.use (hs:=[]) (o:=.auto) (g:=true) rfl trivial (by kernel_rfl),z.use (hs:=[]) (o:=.auto) (g:=true) rfl trivial (by kernel_rfl),z.use (hs:=[]) (o:=.auto) (g:=true) rfl trivial (by kernel_rfl),z.use (hs:=[]) (o:=.auto) (g:=true) rfl trivial (by kernel_rfl),z.use (hs:=[]) (o:=.auto) (g:=true) rfl trivial (by kernel_rfl),z.use (hs:=[]) (o:=.auto) (g:=true) rfl trivial (by kernel_rfl),z.use (hs:=[]) (o:=.auto) (g:=true) rfl trivial (by kernel_rfl),z.use (hs:=[]) (o:=.auto) (g:=true) rfl trivial (by kernel_rfl),z.use (hs:=[]) (o:=.auto) (g:=true) rfl trivial (by kernel_rfl),z.use (hs:=[]) (o:=.auto) (g:=true) rfl trivial (by kernel_rfl),trivial⟩
theorem zS (h:w∈Ip):CallOk z.c 4 834 [.dat (.str w)] [] (.dat (.str (bK w))) []:=(Mp z).at h
theorem TS {T:List D}{word:Nm}:Gc 5 (D2 r (dl T) word gap) [.lst (dl T),.fr [(uG,.dat (.int (Int.ofNat r))),(dP,.ref 0),(fJ,.ref 5),(aV,.ref 6),(kU,.dat (.str gap))],.cel (some (.dat (.str word))),.cel (some (.dat (aX eH))),.cel none,.lst (dl (aB (j0 gap))),.lst (dl (aF (lN word gap)))]:=by
 have a0:=cP (cA Uz) T
 have b0:=cP (cA Uz) (aB (j0 gap))
 have d0:=cP (cA Uz) (aF (lN word gap))
 have a1:=cF (kr Uz) T
 have b1:=cF (kr Uz) (aB (j0 gap))
 have d1:=cF (kr Uz) (aF (lN word gap))
 unfold D2
 generalize dl T=X at *
 generalize dl (aB (j0 gap))=Y at *
 generalize dl (aF (lN word gap))=Z at *
 generalize dl (aF (Ml word gap))=U at *
 generalize dl (aF (Rz word 7))=U2 at *
 have e1:cL Uz [.lst X,.fr [(uG,.dat (.int (Int.ofNat r))),(dP,.ref 0),(fJ,.ref 5),(aV,.ref 10),(kU,.dat (.str gap))],.cel (some (.dat (.str word))),.cel (some (.dat (aX eH))),.cel none,.lst Y,.lst (dl (aB dB)),.lst [.dat (oF (60,bI [60]))],.lst U2,.gone,.lst Z,.lst [.dat (.str cS)],.lst (dl (aB lV)),.lst U,.gone]=(X.all (V.cl (cA Uz))&&(Y.all (V.cl (cA Uz))&&(Z.all (V.cl (cA Uz))&&true))):=by kernel_rfl
 have e2:kept Uz [.lst X,.fr [(uG,.dat (.int (Int.ofNat r))),(dP,.ref 0),(fJ,.ref 5),(aV,.ref 10),(kU,.dat (.str gap))],.cel (some (.dat (.str word))),.cel (some (.dat (aX eH))),.cel none,.lst Y,.lst (dl (aB dB)),.lst [.dat (oF (60,bI [60]))],.lst U2,.gone,.lst Z,.lst [.dat (.str cS)],.lst (dl (aB lV)),.lst U,.gone]=[.lst (X.map (V.ren (kr Uz))),.fr [(uG,.dat (.int (Int.ofNat r))),(dP,.ref 0),(fJ,.ref 5),(aV,.ref 6),(kU,.dat (.str gap))],.cel (some (.dat (.str word))),.cel (some (.dat (aX eH))),.cel none,.lst (Y.map (V.ren (kr Uz))),.lst (Z.map (V.ren (kr Uz)))]:=by kernel_rfl
 exact mR (τ:=[5,10]) (by kernel_rfl) (e1.trans (by rw[a0,b0,d0];rfl)) (e2.trans (by rw[a1,b1,d1]))
theorem Qt {R:List D}(h3:nb [a] [0]=true)(h4:Nat.ble Y.length lim=true)(h6:Nat.ble ((bO Y (.str bY)).length+1) lim=true)(h5:Nat.ble w.length lim=true)(h7:Nat.ble Z.length lim=true)(o1:CallOk z.c 1 839 [.ref 8,.dat (.tup [.str eA,.str (bK (cut w none (some (Int.ofNat (k+1))))),.non,.non,.boo false])] (NS r w X (bO Y (.str bY)) (oS k) Z c1 c2 gap) (.dat (.lst R)) (NS r w X (bO Y (.str bY)) (oS k) Z c1 c2 gap))(o2:CallOk z.c 4 834 [.dat (.str (cut w none (some (Int.ofNat (k+1)))))] [] (.dat (.str (bK (cut w none (some (Int.ofNat (k+1))))))) [])(o3:(∀ hp,bZ z.c 7 hp getItem z.c.VT (.dat (.str w)) (.dat (.int (Int.ofNat k))) (.dat (.str [a])) hp))(o4:(V.dat (.int (Int.ofNat (k+1)-1)):V)=.dat (.int (Int.ofNat k))):RX z.c cO.names 7 FD (Am r w X Y (oS k) Z c1 c2 gap) rJ.b .next (NS r w X (bO Y (.str bY)) (oS k) (bO Z (.tup [.str [a],.lst R])) c1 c2 gap):=
 z.useX (hs:=[.val 1292017025 (.dat (.int (Int.ofNat k))),.sub 1292011026 (.dat (.str [a])),.tst 1292011036 true,.val 1294028036 (.dat (.int (Int.ofNat k))),.sub 1294022037 (.dat (.str [a])),.cal 834 4 [] (.dat (.str (bK (cut w none (some (Int.ofNat (k+1))))))) [],.cll 839 1 (.dat (.lst R)) (NS r w X (bO Y (.str bY)) (oS k) Z c1 c2 gap)]) (g:=cg [(true,Nat.ble Z.length lim),(true,Nat.ble w.length lim),(true,Nat.ble ((bO Y (.str bY)).length+1) lim),(true,Nat.ble Y.length lim),(true,nb [a] [0])]) (aA h7 (aA h5 (aA h6 (aA h4 (aA h3 aH))))) (an o1 (an o2 (an o3 (an o4 (an o3 (an o4 trivial)))))) (by kernel_rfl)
theorem Qu {R:List D}(h3:nb [a] [0]=false)(h6:Nat.ble (Y.length+1) lim=true)(h5:Nat.ble w.length lim=true)(h7:Nat.ble Z.length lim=true)(o1:CallOk z.c 1 839 [.ref 8,.dat (.tup [.str eA,.str (bK (cut w none (some (Int.ofNat (k+1))))),.non,.non,.boo false])] (NS r w X Y (oS k) Z c1 c2 gap) (.dat (.lst R)) (NS r w X Y (oS k) Z c1 c2 gap))(o2:CallOk z.c 4 834 [.dat (.str (cut w none (some (Int.ofNat (k+1)))))] [] (.dat (.str (bK (cut w none (some (Int.ofNat (k+1))))))) [])(o3:(∀ hp,bZ z.c 7 hp getItem z.c.VT (.dat (.str w)) (.dat (.int (Int.ofNat k))) (.dat (.str [a])) hp))(o4:(V.dat (.int (Int.ofNat (k+1)-1)):V)=.dat (.int (Int.ofNat k))):RX z.c cO.names 7 FD (Am r w X Y (oS k) Z c1 c2 gap) rJ.b .next (NS r w X Y (oS k) (bO Z (.tup [.str [a],.lst R])) c1 c2 gap):=
 z.useX (hs:=[.val 1292017025 (.dat (.int (Int.ofNat k))),.sub 1292011026 (.dat (.str [a])),.tst 1292011036 false,.val 1294028036 (.dat (.int (Int.ofNat k))),.sub 1294022037 (.dat (.str [a])),.cal 834 4 [] (.dat (.str (bK (cut w none (some (Int.ofNat (k+1))))))) [],.cll 839 1 (.dat (.lst R)) (NS r w X Y (oS k) Z c1 c2 gap)]) (g:=cg [(true,Nat.ble Z.length lim),(true,Nat.ble w.length lim),(true,Nat.ble (Y.length+1) lim),(false,nb [a] [0])]) (aA h7 (aA h5 (aA h6 (aA h3 aH)))) (an o1 (an o2 (an o3 (an o4 (an o3 (an o4 trivial)))))) (by kernel_rfl)
end
end
section
noncomputable def jW (w:Nm)(T:List Nm):Nat→List b9
 |0=>[]
 |k+1=>jW w T k++(match w[k]? with|some a=>[(a,bT (cD w T (k+1)++[dK]) (.doc (bK (cut w none (some (Int.ofNat (k+1))))) none none false))] |none=>[])
theorem qP (w:Nm)(T:List Nm):∀ k,(jW w T k).length≤k
 |0=>Nat.le_refl _
 |k+1=>by
  show(jW w T k++_).length≤_
  rw[List.length_append]
  refine Nat.add_le_add (qP w T k) ?_
  cases w[k]? <;>simp
section
variable (z:c8){r k a:Nat}{w gap:Nm}{c1 c2:D}{X:List D}{P:List b9}{T:List Nm}
noncomputable abbrev NE (r:Nat)(w:Nm)(X:List D)(T:List Nm)(eo:List (Nm×V))(P:List b9)(c1 c2:D)(gap:Nm):List O:=Am r w (dl X) (dl (aB T)) eo (dl (aF P)) c1 c2 gap
noncomputable abbrev s7:List Nat:=[0,1,2,3,4,5,6]
theorem Mq {W:List V}:Gc 7 (NE r w X T (oS k) P c1 c2 gap++[.lst [.dat (.str dK)],.lst W]) (NE r w X T (oS k) P c1 c2 gap):=by
 have a0:=cP (cA s7) X
 have b0:=cP (cA s7) (aB T)
 have d0:=cP (cA s7) (aF P)
 have a1:=cF (kr s7) X
 have b1:=cF (kr s7) (aB T)
 have d1:=cF (kr s7) (aF P)
 show Gc 7 (Am r w (dl X) (dl (aB T)) (oS k) (dl (aF P)) c1 c2 gap++[.lst [.dat (.str dK)],.lst W]) (Am r w (dl X) (dl (aB T)) (oS k) (dl (aF P)) c1 c2 gap)
 generalize dl X=X at *
 generalize dl (aB T)=Y at *
 generalize dl (aF P)=Z at *
 have e1:cL s7 (Am r w X Y (oS k) Z c1 c2 gap++[.lst [.dat (.str dK)],.lst W])=(X.all (V.cl (cA s7))&&(Y.all (V.cl (cA s7))&&(Z.all (V.cl (cA s7))&&true))):=by kernel_rfl
 have e2:kept s7 (Am r w X Y (oS k) Z c1 c2 gap++[.lst [.dat (.str dK)],.lst W])=Am r w (X.map (V.ren (kr s7))) (Y.map (V.ren (kr s7))) (oS k) (Z.map (V.ren (kr s7))) c1 c2 gap:=by kernel_rfl
 exact mR (τ:=[]) (by kernel_rfl) (e1.trans (by rw[a0,b0,d0];rfl)) (e2.trans (by rw[a1,b1,d1]))
theorem wG {it:D}(h:T.length≤1000):CallOk z.c 1 839 [.ref 8,.dat it] (NS r w (dl X) (dl (aB T)) (oS k) (dl (aF P)) c1 c2 gap) (.dat (.lst (b8 (T++[dK]) it))) (NS r w (dl X) (dl (aB T)) (oS k) (dl (aF P)) c1 c2 gap):=by
 have e:bO (dl (aB T)) (.str dK)=dl (aB (T++[dK])):=(cQ T dK).symm
 unfold NS
 rw[e]
 exact eS (c:=z.c) (hp:=Am r w (dl X) (dl (aB T)) (oS k) (dl (aF P)) c1 c2 gap++[.lst [.dat (.str dK)],.lst (dl (aB (T++[dK])))]) (l:=8) (d:=.lst (b8 (T++[dK]) it)) (ds:=[it]) (X:=aB (T++[dK])) (Y:=aB (T++[dK])) rfl (iV z (by rw[List.length_append];exact Nat.le_trans (Nat.succ_le_succ h) (by decide)))
inductive NamR (z:c8) (r:Nat) (w:Nm) (X:List D) (k:Nat) (c1 c2:D) (gap:Nm) (hp:List O) (P:List b9) (T:List Nm):Prop
 |mk (hp2:List O) (h:RX z.c cO.names 7 FD hp rJ.b .next hp2) (g:Gc 7 hp2 (NE r w X T (oS k) P c1 c2 gap))
theorem zT {hp:List O}{R:List D}{T':List Nm}{G:Nm}(hR:R=b8 (T'++[dK]) (Item.doc G none none false).toD)(h:RX z.c cO.names 7 FD hp rJ.b .next (NS r w (dl X) (dl (aB T')) (oS k) (bO (dl (aF P)) (.tup [.str [a],.lst R])) c1 c2 gap)):
  NamR z r w X k c1 c2 gap hp (P++[(a,bT (T'++[dK]) (.doc G none none false))]) T':=by
 refine .mk _ h ?_
 have e:bO (dl (aF P)) (.tup [.str [a],.lst R])=dl (aF (P++[(a,bT (T'++[dK]) (.doc G none none false))])):=by
  rw[eC,hR,fH];rfl
 rw[e]
 exact Mq
theorem Ez (ha:w[k]? =some a)(hw:w.length≤100)(hs:CallOk z.c 4 834 [.dat (.str (cut w none (some (Int.ofNat (k+1)))))] [] (.dat (.str (bK (cut w none (some (Int.ofNat (k+1))))))) [])(hP:P.length≤1000)(hT:T.length≤900):
  NamR z r w X k c1 c2 gap (NE r w X T (oS k) P c1 c2 gap) (P++[(a,bT ((bif nb [a] [0]then T++[bY]else T)++[dK]) (.doc (bK (cut w none (some (Int.ofNat (k+1))))) none none false))]) (bif nb [a] [0]then T++[bY]else T):=by
 have hk:=(List.getElem?_eq_some_iff.mp ha).1
 have h4:Nat.ble (dl (aB T)).length lim=true:=fI (m:=900) (by rw[cY];exact hT) rfl
 have h5:Nat.ble w.length lim=true:=lb hw rfl
 have h7:Nat.ble (dl (aF P)).length lim=true:=fI (m:=1000) (by rw[cG];exact hP) rfl
 have h6:∀ T':List Nm,T'.length≤901→Nat.ble ((dl (aB T')).length+1) lim=true:=fun T' h=>fI (m:=902) (by rw[cY];exact Nat.succ_le_succ h) rfl
 have o3:∀ hp,bZ z.c 7 hp getItem z.c.VT (.dat (.str w)) (.dat (.int (Int.ofNat k))) (.dat (.str [a])) hp:=fun hp=>jU (sL ha) (fI (m:=100) (Nat.le_trans (Nat.le_of_lt hk) hw) rfl)
 have o4:(V.dat (.int (Int.ofNat (k+1)-1)):V)=.dat (.int (Int.ofNat k)):=congrArg (fun i=>V.dat (.int i)) (by show((k:Int)+1)-1=k;omega)
 have hc:bO (dl (aB T)) (.str bY)=dl (aB (T++[bY])):=(cQ T bY).symm
 have hT1:(T++[bY]).length≤901:=by rw[List.length_append];exact Nat.succ_le_succ hT
 have h8:Nat.ble ((bO (dl (aB T)) (.str bY)).length+1) lim=true:=by rw[hc];exact h6 _ hT1
 have o1:∀ it:D,CallOk z.c 1 839 [.ref 8,.dat it] (NS r w (dl X) (dl (aB T)) (oS k) (dl (aF P)) c1 c2 gap) (.dat (.lst (b8 (T++[dK]) it))) (NS r w (dl X) (dl (aB T)) (oS k) (dl (aF P)) c1 c2 gap):=fun it=>wG z (Nat.le_trans hT (by decide))
 have o5:∀ it:D,CallOk z.c 1 839 [.ref 8,.dat it] (NS r w (dl X) (bO (dl (aB T)) (.str bY)) (oS k) (dl (aF P)) c1 c2 gap) (.dat (.lst (b8 (T++[bY]++[dK]) it))) (NS r w (dl X) (bO (dl (aB T)) (.str bY)) (oS k) (dl (aF P)) c1 c2 gap):=fun it=>by rw[hc];exact wG z (Nat.le_trans hT1 (by decide))
 cases h3:nb [a] [0]with
 |true=>exact zT z rfl (hc▸Qt z h3 h4 h8 h5 h7 (o5 _) hs o3 o4)
 |false=>exact zT z rfl (Qu z h3 (h6 T (Nat.le_trans hT (by decide))) h5 h7 (o1 _) hs o3 o4)
noncomputable def Mr (r:Nat)(w:Nm)(X:List D)(c1 c2:D)(gap:Nm)(P:List b9)(T:List Nm)(k:Nat)(hp:List O):Prop:=∃ eo,((eo=[]∧k=0)∨∃ j,eo=oS j)∧hp=NE r w X (cD w T k) eo (P++jW w T k) c1 c2 gap
theorem FA (hw:w.length≤100)(H:∀ k<w.length,CallOk z.c 4 834 [.dat (.str (cut w none (some (Int.ofNat (k+1)))))] [] (.dat (.str (bK (cut w none (some (Int.ofNat (k+1))))))) [])(hP:P.length≤500)(hT:T.length≤500)(k:Nat)(y:V)(hp:List O)(hk:(fN 1 w.length 0)[k]? =some y)(p:Mr r w X c1 c2 gap P T k hp):
  ∃ hp1 hp2 hp3,RG z.c cO.names 7 FD hp rJ.g y hp1∧RX z.c cO.names 7 FD hp1 rJ.b .next hp2∧Gc 7 hp2 hp3∧Mr r w X c1 c2 gap P T (k+1) hp3:=by
 obtain⟨eo,he,rfl⟩:=p
 rw[zP]at hk
 by_cases lt:k<w.length
 ·rw[if_pos lt]at hk
  cases hk
  have ha:=List.getElem?_eq_getElem lt
  have hs:=H k lt
  generalize w[k]=a at ha
  have l1:=qP w T k
  have l2:=jH w T k
  have eT:cD w T (k+1)=(bif nb [a] [0]then cD w T k++[bY]else cD w T k):=by rw[cD,ha]
  have eE:P++jW w T (k+1)=P++jW w T k++[(a,bT ((bif nb [a] [0]then cD w T k++[bY]else cD w T k)++[dK]) (.doc (bK (cut w none (some (Int.ofNat (k+1))))) none none false))]:=by
   rw[jW,eT,ha];exact(List.append_assoc P _ _).symm
  have rg:RG z.c cO.names 7 FD (NE r w X (cD w T k) eo (P++jW w T k) c1 c2 gap) rJ.g (.dat (.int (Int.ofNat (k+1)))) (NE r w X (cD w T k) (oS k) (P++jW w T k) c1 c2 gap):=by
   rcases he with⟨rfl,_⟩|⟨j,rfl⟩
   ·exact cM (by kernel_rfl) (by kernel_rfl)
   ·exact cM (by kernel_rfl) (by kernel_rfl)
  have t:=Ez z (r:=r) (X:=X) (c1:=c1) (c2:=c2) (gap:=gap) (P:=P++jW w T k) (T:=cD w T k) ha hw hs (by rw[List.length_append];omega) (by omega)
  exact match t with
   |.mk hp2 h g=>⟨_,_,_,rg,h,g,oS k,.inr ⟨k,rfl⟩,by rw[eE,eT]⟩
 ·rw[if_neg lt]at hk;cases hk
theorem Iq (hw:w.length≤100)(h0:0<w.length)(H:∀ k<w.length,CallOk z.c 4 834 [.dat (.str (cut w none (some (Int.ofNat (k+1)))))] [] (.dat (.str (bK (cut w none (some (Int.ofNat (k+1))))))) [])(hP:P.length≤500)(hT:T.length≤500):
  ∃ j,RS z.c cO.names 7 FD (NE r w X T [] P c1 c2 gap) rJ.s .next (NE r w X (cD w T w.length) (oS j) (P++jW w T w.length) c1 c2 gap):=by
 have h1:RE z.c cO.names 7 FD (NE r w X T [] P c1 c2 gap) rJ.i (.rng 1 (Int.ofNat (w.length+1))) (NE r w X T [] P c1 c2 gap):=z.useE (hs:=[]) (g:=cg [(true,Nat.ble w.length lim)]) (aA (lb hw rfl) aH) trivial (by kernel_rfl)
 obtain⟨hp',h,eo,he,rfl⟩:=x6 (base:=7) (v:=.rng 1 (Int.ofNat (w.length+1))) (all:=fN 1 w.length 0) (Mr r w X c1 c2 gap P T) (fun k hp p=>by
  show some (fN 1 (gT 1 (Int.ofNat (w.length+1))) 0)=_
  rw[show gT 1 (Int.ofNat (w.length+1))=w.length by unfold gT;show(((w.length:Int)+1)-1).toNat=_;omega]) (FA z hw H hP hT) (fN 1 w.length 0).length 0 (NE r w X T [] P c1 c2 gap) (Nat.zero_add _) ⟨[],.inl ⟨rfl,rfl⟩,by rw[jW,List.append_nil];rfl⟩
 rw[jT]at h he
 obtain⟨j,rfl⟩:∃ j,eo=oS j:=he.elim (fun q=>absurd q.2 (Nat.ne_of_gt h0)) id
 exact⟨j,kJ (fun env x=>dA (by kernel_rfl) env x) h1 (fI (m:=101) (Nat.succ_le_succ hw) rfl) rfl h⟩
end
end
section
noncomputable def eF:Nm:=Ui
noncomputable def FC:Nm:=[102,111,114,109]
noncomputable def Ms:Nm:=[108,97,116,101]
noncomputable abbrev g6:Nm:=eF
noncomputable def gQ (T:List Nm)(nm:Nm):List Item:=bT (T++[aY]) (.doc nm none none false)
noncomputable def qQ (T:List Nm)(nm:Nm):List Item:=bT (T++[g6]) (.doc nm none none false)
noncomputable abbrev FT (r j:Nat)(w nm gap:Nm)(fm:Nat)(late:D)(fo:List (Nm×V)):List (Nm×V):=
 [(uG,.dat (.int (Int.ofNat r))),(dP,.ref 0),(fJ,.ref 5),(aV,.ref 6),(kU,.dat (.str gap)),(cK,.dat (.str w)),(bC,.dat (.int (Int.ofNat (j+1)))),(tX,.dat (.str nm)),(FC,.dat (.int (Int.ofNat fm))),(Ms,.dat late)]++fo
noncomputable abbrev FB (r j:Nat)(w nm gap:Nm)(fm:Nat):List (Nm×V):=
 [(uG,.dat (.int (Int.ofNat r))),(dP,.ref 0),(fJ,.ref 5),(aV,.ref 6),(kU,.dat (.str gap)),(cK,.dat (.str w)),(bC,.dat (.int (Int.ofNat (j+1)))),(tX,.dat (.str nm)),(FC,.dat (.int (Int.ofNat fm)))]
noncomputable abbrev DH (fr:List (Nm×V))(X Y Z:List V)(c1 c2:D)(bad:Option V):List O:=[.lst X,.fr fr,.cel (some (.dat c1)),.cel (some (.dat c2)),.cel bad,.lst Y,.lst Z]
noncomputable abbrev J1 (e:Nm)(Y:List V):List O:=[.lst [.dat (.str e)],.lst (bO Y (.str e))]
noncomputable abbrev BD (fr:List (Nm×V))(X Y Z:List V)(c1 c2:D)(bad:Option V):List O:=DH fr X Y Z c1 c2 bad++J1 aY Y
noncomputable abbrev BE (fr:List (Nm×V))(X Y Z:List V)(c1 c2:D)(bad:Option V):List O:=BD fr X Y Z c1 c2 bad++J1 g6 Y
section
variable (z:c8){r k j fm:Nat}{X Y Z Y0 Z0:List V}{w nm gap:Nm}{c1 c2 late bad:D}
theorem Qv (h1:CallOk z.c 1 780 [] [] (.dat (.lst (aB fV))) [])(h2:(V.dat (.int (Int.fmod (Int.fdiv (Int.ofNat r) 9) 4)):V)=.dat (.int (Int.ofNat k)))(h3:∀ hp,bZ z.c 7 hp getItem z.c.VT (.dat (.lst (aB fV))) (.dat (.int (Int.ofNat k))) (.dat (.str w)) hp)
  (h4:RS z.c cO.names 7 FD (Am r w X Y0 [] Z0 c1 c2 gap) rJ.s .next (Am r w X Y (oS j) Z c1 c2 gap))(h5:CallOk z.c 4 834 [.dat (.str w)] [] (.dat (.str nm)) [])(h6:(V.dat (.int (Int.fmod (Int.fdiv (Int.ofNat r) 36) 6)):V)=.dat (.int (Int.ofNat fm)))
  (h7:CallOk z.c 1 839 [.ref 8,.dat (Item.doc nm none none false).toD] (BD (FB r j w nm gap fm) X Y Z c1 c2 none) (.dat late) (BD (FB r j w nm gap fm) X Y Z c1 c2 none))
  (h8:CallOk z.c 1 839 [.ref 10,.dat (Item.doc nm none none false).toD] (BE (FT r j w nm gap fm late []) X Y Z c1 c2 none) (.dat bad) (BE (FT r j w nm gap fm late []) X Y Z c1 c2 none))
  (hl:Nat.ble (Y.length+1) lim=true)(hd:(!Builtin.divisionGoesByPylong (Int.ofNat r) 9)=true)(hd2:(!Builtin.divisionGoesByPylong (Int.ofNat r) 36)=true):
  RX z.c cO.names 7 FD (DH [(uG,.dat (.int (Int.ofNat r))),(dP,.ref 0),(fJ,.ref 5),(aV,.ref 6),(kU,.dat (.str gap))] X Y0 Z0 c1 c2 none) ((cO.body.drop 7).take 7) .next (BE (FT r j w nm gap fm late [(aI,.dat .non),(aL,.dat .non)]) X Y Z c1 c2 (some (.dat bad))):=
 z.useX (hs:=[.cal 780 1 [] (.dat (.lst (aB fV))) [],.val 1290025035 (.dat (.int (Int.ofNat k))),.sub 1290012036 (.dat (.str w)),.stm 1291 .next (Am r w X Y (oS j) Z c1 c2 gap),.cal 834 4 [] (.dat (.str nm)) [],.val 1296011022 (.dat (.int (Int.ofNat fm))),.cll 839 1 (.dat late) (BD (FB r j w nm gap fm) X Y Z c1 c2 none),.cll 839 1 (.dat bad) (BE (FT r j w nm gap fm late []) X Y Z c1 c2 none)])
  (g:=cg [(true,Nat.ble (Y.length+1) lim),(true,Nat.ble (Y.length+1) lim),(true,!Builtin.divisionGoesByPylong (Int.ofNat r) 36),(true,!Builtin.divisionGoesByPylong (Int.ofNat r) 9)]) (aA hl (aA hl (aA hd2 (aA hd aH)))) (an h8 (an h7 (an h6 (an h5 (an h4 (an h3 (an h2 (an h1 trivial)))))))) (by kernel_rfl)
end
end
section
noncomputable abbrev lW:List (Nm×V):=[(aI,.dat .non),(aL,.dat .non)]
noncomputable abbrev DT (r j:Nat)(w nm gap:Nm)(fm:Nat)(late:D)(X Y Z:List V)(c1 c2 bad:D):List O:=DH (FT r j w nm gap fm late lW) X Y Z c1 c2 (some (.dat bad))
noncomputable abbrev cT (c:Nat)(d:D):D:=.tup [.str [c],d]
section
variable (z:c8){r j:Nat}{X X' Y Z:List V}{w nm gap:Nm}{c1 c2 late bad e:D}
theorem Mt (hz:Nat.ble Z.length lim=true)(h:CallOk z.c 1 839 [.ref 5,.dat (Item.doc nm none none true).toD] (DT r j w nm gap 0 late X Y Z c1 c2 bad) (.dat e) (DT r j w nm gap 0 late X Y Z c1 c2 bad)):
  RX z.c cO.names 7 FD (DT r j w nm gap 0 late X Y Z c1 c2 bad) (cO.body.drop 14) (.ret (.ref 6)) (DT r j w nm gap 0 late X Y (bO Z (cT 62 e)) c1 c2 bad):=
 z.useX (hs:=[.cll 839 1 (.dat e) (DT r j w nm gap 0 late X Y Z c1 c2 bad)]) (g:=cg [(true,Nat.ble Z.length lim)]) (aA hz aH) (an h trivial) (by kernel_rfl)
theorem Mu (hz:Nat.ble Z.length lim=true)(hz1:Nat.ble (bO Z (cT 32 late)).length lim=true)(h:CallOk z.c 1 839 [.ref 5,.dat (Item.doc nm none none true).toD] (DT r j w nm gap 1 late X Y (bO Z (cT 32 late)) c1 c2 bad) (.dat e) (DT r j w nm gap 1 late X Y (bO Z (cT 32 late)) c1 c2 bad)):
  RX z.c cO.names 7 FD (DT r j w nm gap 1 late X Y Z c1 c2 bad) (cO.body.drop 14) (.ret (.ref 6)) (DT r j w nm gap 1 late X Y (bO (bO Z (cT 32 late)) (cT 62 e)) c1 c2 bad):=
 z.useX (hs:=[.cll 839 1 (.dat e) (DT r j w nm gap 1 late X Y (bO Z (cT 32 late)) c1 c2 bad)]) (g:=cg [(true,Nat.ble (bO Z (cT 32 late)).length lim),(true,Nat.ble Z.length lim)]) (aA hz1 (aA hz aH)) (an h trivial) (by kernel_rfl)
noncomputable def j8:List Nm:=[[113,32,120],[112,117,98],[115,121,115,116,101,32],[39,34]]
noncomputable def gY (w:Nm)(bad:D):List V:=w.map fun c=>.dat (cT c bad)
noncomputable abbrev qR (r j:Nat)(w nm gap:Nm)(late:D)(X Y Z:List V)(c1 c2 bad:D)(b:Nm):List O:=DT r j w nm gap 5 late X Y (bO Z (cT 32 late)++gY (b++[62]) bad) c1 c2 bad++[.lst (gY (b++[62]) bad),.gone]
theorem Ir {m:Nat}(hz:Nat.ble Z.length lim=true)(hz1:Nat.ble ((bO Z (cT 32 late)).length+4) lim=true)(h1:CallOk z.c 1 801 [] [] (.dat (.lst (aB j8))) [])(h2:CallOk z.c 1 822 [.ref 0] (DT r j w nm gap 5 late X Y (bO Z (cT 32 late)) c1 c2 bad) (.dat (.int (Int.ofNat m))) (DT r j w nm gap 5 late X' Y (bO Z (cT 32 late)) c1 c2 bad))(h3:(V.dat (.int (Int.fmod (Int.ofNat m) 4)):V)=.dat (.int 0)):
  RX z.c cO.names 7 FD (DT r j w nm gap 5 late X Y Z c1 c2 bad) (cO.body.drop 14) (.ret (.ref 6)) (qR r j w nm gap late X' Y Z c1 c2 bad [113,32,120]):=
 z.useX (hs:=[.cal 801 1 [] (.dat (.lst (aB j8))) [],.cll 822 1 (.dat (.int (Int.ofNat m))) (DT r j w nm gap 5 late X' Y (bO Z (cT 32 late)) c1 c2 bad),.val 1303055074 (.dat (.int 0))]) (g:=cg [(true,Nat.ble ((bO Z (cT 32 late)).length+4) lim),(true,Nat.ble Z.length lim)]) (aA hz1 (aA hz aH)) (an h3 (an h2 (an h1 trivial))) (by kernel_rfl)
theorem It {m:Nat}(hz:Nat.ble Z.length lim=true)(hz1:Nat.ble ((bO Z (cT 32 late)).length+4) lim=true)(h1:CallOk z.c 1 801 [] [] (.dat (.lst (aB j8))) [])(h2:CallOk z.c 1 822 [.ref 0] (DT r j w nm gap 5 late X Y (bO Z (cT 32 late)) c1 c2 bad) (.dat (.int (Int.ofNat m))) (DT r j w nm gap 5 late X' Y (bO Z (cT 32 late)) c1 c2 bad))(h3:(V.dat (.int (Int.fmod (Int.ofNat m) 4)):V)=.dat (.int 1)):
  RX z.c cO.names 7 FD (DT r j w nm gap 5 late X Y Z c1 c2 bad) (cO.body.drop 14) (.ret (.ref 6)) (qR r j w nm gap late X' Y Z c1 c2 bad [112,117,98]):=
 z.useX (hs:=[.cal 801 1 [] (.dat (.lst (aB j8))) [],.cll 822 1 (.dat (.int (Int.ofNat m))) (DT r j w nm gap 5 late X' Y (bO Z (cT 32 late)) c1 c2 bad),.val 1303055074 (.dat (.int 1))]) (g:=cg [(true,Nat.ble ((bO Z (cT 32 late)).length+4) lim),(true,Nat.ble Z.length lim)]) (aA hz1 (aA hz aH)) (an h3 (an h2 (an h1 trivial))) (by kernel_rfl)
theorem Iu {m:Nat}(hz:Nat.ble Z.length lim=true)(hz1:Nat.ble ((bO Z (cT 32 late)).length+7) lim=true)(h1:CallOk z.c 1 801 [] [] (.dat (.lst (aB j8))) [])(h2:CallOk z.c 1 822 [.ref 0] (DT r j w nm gap 5 late X Y (bO Z (cT 32 late)) c1 c2 bad) (.dat (.int (Int.ofNat m))) (DT r j w nm gap 5 late X' Y (bO Z (cT 32 late)) c1 c2 bad))(h3:(V.dat (.int (Int.fmod (Int.ofNat m) 4)):V)=.dat (.int 2)):
  RX z.c cO.names 7 FD (DT r j w nm gap 5 late X Y Z c1 c2 bad) (cO.body.drop 14) (.ret (.ref 6)) (qR r j w nm gap late X' Y Z c1 c2 bad [115,121,115,116,101,32]):=
 z.useX (hs:=[.cal 801 1 [] (.dat (.lst (aB j8))) [],.cll 822 1 (.dat (.int (Int.ofNat m))) (DT r j w nm gap 5 late X' Y (bO Z (cT 32 late)) c1 c2 bad),.val 1303055074 (.dat (.int 2))]) (g:=cg [(true,Nat.ble ((bO Z (cT 32 late)).length+7) lim),(true,Nat.ble Z.length lim)]) (aA hz1 (aA hz aH)) (an h3 (an h2 (an h1 trivial))) (by kernel_rfl)
theorem Iv {m:Nat}(hz:Nat.ble Z.length lim=true)(hz1:Nat.ble ((bO Z (cT 32 late)).length+3) lim=true)(h1:CallOk z.c 1 801 [] [] (.dat (.lst (aB j8))) [])(h2:CallOk z.c 1 822 [.ref 0] (DT r j w nm gap 5 late X Y (bO Z (cT 32 late)) c1 c2 bad) (.dat (.int (Int.ofNat m))) (DT r j w nm gap 5 late X' Y (bO Z (cT 32 late)) c1 c2 bad))(h3:(V.dat (.int (Int.fmod (Int.ofNat m) 4)):V)=.dat (.int 3)):
  RX z.c cO.names 7 FD (DT r j w nm gap 5 late X Y Z c1 c2 bad) (cO.body.drop 14) (.ret (.ref 6)) (qR r j w nm gap late X' Y Z c1 c2 bad [39,34]):=
 z.useX (hs:=[.cal 801 1 [] (.dat (.lst (aB j8))) [],.cll 822 1 (.dat (.int (Int.ofNat m))) (DT r j w nm gap 5 late X' Y (bO Z (cT 32 late)) c1 c2 bad),.val 1303055074 (.dat (.int 3))]) (g:=cg [(true,Nat.ble ((bO Z (cT 32 late)).length+3) lim),(true,Nat.ble Z.length lim)]) (aA hz1 (aA hz aH)) (an h3 (an h2 (an h1 trivial))) (by kernel_rfl)
end
end
section
noncomputable def gZ:Nm:=Uk
noncomputable def dT:Nm:=[109]
noncomputable def aQ:Nm:=[107,101,121]
noncomputable def cZ:List Nm:=[[112,117,98,108,105,99],[80,85,66,108,105,99],[115,121,115,116,101,109],[83,89,83,116,101,109]]
noncomputable def aM:List Nm:=[[],[45,47,47,87,47,47,88],[112,0,113],[97,13,10,66]]
noncomputable abbrev eO:Nm:=gZ
noncomputable abbrev KL (r j:Nat)(w nm gap:Nm)(fm:Nat)(late:D)(fo:List (Nm×V))(X Y Z:List V)(c1 c2 bad:D)(b:Nm):List O:=DH (FT r j w nm gap fm late fo) X Y Z c1 c2 (some (.dat bad))++[.lst (gY b bad),.gone]
noncomputable abbrev KJ (r j:Nat)(w nm gap:Nm)(fm:Nat)(late:D)(fo:List (Nm×V))(X Y Z:List V)(c1 c2 bad:D)(b:Nm):List O:=KL r j w nm gap fm late fo X Y Z c1 c2 bad b++J1 aY Y
noncomputable abbrev uY (r j:Nat)(w nm gap:Nm)(fm:Nat)(late:D)(fo:List (Nm×V))(X Y Z:List V)(c1 c2 bad:D)(b:Nm)(Y0:List V):List O:=KL r j w nm gap fm late fo X Y Z c1 c2 bad b++J1 aY Y0
noncomputable abbrev ZK (Z:List V)(late bad:D)(k0 k1 k2 k3 k4 k5:Nat):List V:=bO (bO Z (cT 32 late)++gY [k0,k1,k2,k3,k4] bad) (cT k5 late)
section
variable (z:c8){r j:Nat}{X X' Y Z:List V}{w nm gap:Nm}{c1 c2 late bad e:D}
theorem Iw {m kk pk pj q4 k0 k1 k2 k3 k4 k5:Nat}{w4 m4:Nm}{Y4 Z4:List V}(z1:Nat.ble (Z).length lim=true)(z2:Nat.ble ((bO Z (cT 32 late)).length+5) lim=true)(z3:Nat.ble ((bO Z (cT 32 late))++gY [k0,k1,k2,k3,k4] bad).length lim=true)(d2:(!Builtin.divisionGoesByPylong (Int.ofNat m) 2)=true)(z4:Nat.ble ((ZK Z late bad k0 k1 k2 k3 k4 k5)).length lim=true)(d8:(!Builtin.divisionGoesByPylong (Int.ofNat m) 8)=true)(d4:(!Builtin.divisionGoesByPylong (Int.ofNat m) 4)=true)(z9:Nat.ble (Z4).length lim=true)
  (n1:CallOk z.c 1 822 [.ref 0] (DH (FT r j w nm gap 2 late lW) X Y (bO Z (cT 32 late)) c1 c2 (some (.dat bad))) (.dat (.int (Int.ofNat m))) (DH (FT r j w nm gap 2 late lW) X' Y (bO Z (cT 32 late)) c1 c2 (some (.dat bad))))
  (n2:CallOk z.c 1 787 [] [] (.dat (.lst (aB cZ))) [])
  (n3:(V.dat (.int (Int.fmod (Int.ofNat m) 2+0)):V)=.dat (.int (Int.ofNat kk)))
  (n4:(∀ hp,bZ z.c 7 hp getItem z.c.VT (.dat (.lst (aB cZ))) (.dat (.int (Int.ofNat kk))) (.dat (.str [k0,k1,k2,k3,k4,k5])) hp))
  (n5:(V.dat (.int (Int.fmod (Int.fdiv (Int.ofNat m) 2) 2)):V)=.dat (.int 0))
  (pa:CallOk z.c 1 794 [] [] (.dat (.lst (aB aM))) [])
  (pb:(V.dat (.int (Int.fmod (Int.fdiv (Int.ofNat m) 8) 4)):V)=.dat (.int (Int.ofNat pk)))
  (pc:(∀ hp,bZ z.c 7 hp getItem z.c.VT (.dat (.lst (aB aM))) (.dat (.int (Int.ofNat pk))) (.dat (.str w4)) hp))
  (pd:(V.dat (.int (Int.fmod (Int.fdiv (Int.ofNat m) 4) 2)):V)=.dat (.int (Int.ofNat pj)))
  (pe:(∀ hp,bZ z.c 7 hp getItem z.c.VT (.dat (.str [34,39])) (.dat (.int (Int.ofNat pj))) (.dat (.str [q4])) hp))
  (pf:CallOk z.c 3 888 [.ref 6,.ref 5,.dat (.str nm),.dat .non,.dat .non,.dat (.str w4),.dat (.str [q4])] (KL r j w nm gap 2 late [(aI,.dat .non),(aL,.dat .non),(dT,.dat (.int (Int.ofNat m))),(aQ,.dat (.str [k0,k1,k2,k3,k4,k5]))] X' Y (bO (ZK Z late bad k0 k1 k2 k3 k4 k5) (cT 32 late)) c1 c2 bad [k0,k1,k2,k3,k4]) (.dat (.str m4)) (KL r j w nm gap 2 late [(aI,.dat .non),(aL,.dat .non),(dT,.dat (.int (Int.ofNat m))),(aQ,.dat (.str [k0,k1,k2,k3,k4,k5]))] X' Y4 Z4 c1 c2 bad [k0,k1,k2,k3,k4]))
  (n9:CallOk z.c 1 839 [.ref 5,.dat (Item.doc nm (some m4) none true).toD] (KL r j w nm gap 2 late [(aI,.dat (.str m4)),(aL,.dat .non),(dT,.dat (.int (Int.ofNat m))),(aQ,.dat (.str [k0,k1,k2,k3,k4,k5]))] X' Y4 Z4 c1 c2 bad [k0,k1,k2,k3,k4]) (.dat e) (KL r j w nm gap 2 late [(aI,.dat (.str m4)),(aL,.dat .non),(dT,.dat (.int (Int.ofNat m))),(aQ,.dat (.str [k0,k1,k2,k3,k4,k5]))] X' Y4 Z4 c1 c2 bad [k0,k1,k2,k3,k4])):
  RX z.c cO.names 7 FD (DT r j w nm gap 2 late X Y Z c1 c2 bad) (cO.body.drop 14) (.ret (.ref 6)) (KL r j w nm gap 2 late [(aI,.dat (.str m4)),(aL,.dat .non),(dT,.dat (.int (Int.ofNat m))),(aQ,.dat (.str [k0,k1,k2,k3,k4,k5]))] X' Y4 (bO Z4 (cT 62 e)) c1 c2 bad [k0,k1,k2,k3,k4]):=
 z.useX (hs:=[.cll 822 1 (.dat (.int (Int.ofNat m))) (DH (FT r j w nm gap 2 late lW) X' Y (bO Z (cT 32 late)) c1 c2 (some (.dat bad))),.cal 787 1 [] (.dat (.lst (aB cZ))) [],.val 1307030061 (.dat (.int (Int.ofNat kk))),.sub 1307014062 (.dat (.str [k0,k1,k2,k3,k4,k5])),.val 1310011021 (.dat (.int 0)),.cal 794 1 [] (.dat (.lst (aB aM))) [],.val 1317077087 (.dat (.int (Int.ofNat pk))),.sub 1317063088 (.dat (.str w4)),.val 1317096106 (.dat (.int (Int.ofNat pj))),.sub 1317090107 (.dat (.str [q4])),.cll 888 3 (.dat (.str m4)) (KL r j w nm gap 2 late [(aI,.dat .non),(aL,.dat .non),(dT,.dat (.int (Int.ofNat m))),(aQ,.dat (.str [k0,k1,k2,k3,k4,k5]))] X' Y4 Z4 c1 c2 bad [k0,k1,k2,k3,k4]),.cll 839 1 (.dat e) (KL r j w nm gap 2 late [(aI,.dat (.str m4)),(aL,.dat .non),(dT,.dat (.int (Int.ofNat m))),(aQ,.dat (.str [k0,k1,k2,k3,k4,k5]))] X' Y4 Z4 c1 c2 bad [k0,k1,k2,k3,k4])]) (g:=cg [(true,Nat.ble (Z4).length lim),(true,!Builtin.divisionGoesByPylong (Int.ofNat m) 4),(true,!Builtin.divisionGoesByPylong (Int.ofNat m) 8),(true,Nat.ble ((ZK Z late bad k0 k1 k2 k3 k4 k5)).length lim),(true,!Builtin.divisionGoesByPylong (Int.ofNat m) 2),(true,Nat.ble ((bO Z (cT 32 late))++gY [k0,k1,k2,k3,k4] bad).length lim),(true,Nat.ble ((bO Z (cT 32 late)).length+5) lim),(true,Nat.ble (Z).length lim)]) (aA z9 (aA d4 (aA d8 (aA z4 (aA d2 (aA z3 (aA z2 (aA z1 aH)))))))) (an n9 (an pf (an pe (an pd (an pc (an pb (an pa (an n5 (an n4 (an n3 (an n2 (an n1 trivial)))))))))))) (by kernel_rfl)
theorem Ix {m kk pk pj q4 k0 k1 k2 k3 k4 k5:Nat}{w4 m4:Nm}{Y4 Z4:List V}(z1:Nat.ble (Z).length lim=true)(z2:Nat.ble ((bO Z (cT 32 late)).length+5) lim=true)(z3:Nat.ble ((bO Z (cT 32 late))++gY [k0,k1,k2,k3,k4] bad).length lim=true)(d2:(!Builtin.divisionGoesByPylong (Int.ofNat m) 2)=true)(y1:Nat.ble (Y).length lim=true)(d8:(!Builtin.divisionGoesByPylong (Int.ofNat m) 8)=true)(d4:(!Builtin.divisionGoesByPylong (Int.ofNat m) 4)=true)(z9:Nat.ble (Z4).length lim=true)
  (n1:CallOk z.c 1 822 [.ref 0] (DH (FT r j w nm gap 2 late lW) X Y (bO Z (cT 32 late)) c1 c2 (some (.dat bad))) (.dat (.int (Int.ofNat m))) (DH (FT r j w nm gap 2 late lW) X' Y (bO Z (cT 32 late)) c1 c2 (some (.dat bad))))
  (n2:CallOk z.c 1 787 [] [] (.dat (.lst (aB cZ))) [])
  (n3:(V.dat (.int (Int.fmod (Int.ofNat m) 2+0)):V)=.dat (.int (Int.ofNat kk)))
  (n4:(∀ hp,bZ z.c 7 hp getItem z.c.VT (.dat (.lst (aB cZ))) (.dat (.int (Int.ofNat kk))) (.dat (.str [k0,k1,k2,k3,k4,k5])) hp))
  (n5:(V.dat (.int (Int.fmod (Int.fdiv (Int.ofNat m) 2) 2)):V)=.dat (.int 1))
  (pa:CallOk z.c 1 794 [] [] (.dat (.lst (aB aM))) [])
  (pb:(V.dat (.int (Int.fmod (Int.fdiv (Int.ofNat m) 8) 4)):V)=.dat (.int (Int.ofNat pk)))
  (pc:(∀ hp,bZ z.c 7 hp getItem z.c.VT (.dat (.lst (aB aM))) (.dat (.int (Int.ofNat pk))) (.dat (.str w4)) hp))
  (pd:(V.dat (.int (Int.fmod (Int.fdiv (Int.ofNat m) 4) 2)):V)=.dat (.int (Int.ofNat pj)))
  (pe:(∀ hp,bZ z.c 7 hp getItem z.c.VT (.dat (.str [34,39])) (.dat (.int (Int.ofNat pj))) (.dat (.str [q4])) hp))
  (pf:CallOk z.c 3 888 [.ref 6,.ref 5,.dat (.str nm),.dat .non,.dat .non,.dat (.str w4),.dat (.str [q4])] (KL r j w nm gap 2 late [(aI,.dat .non),(aL,.dat .non),(dT,.dat (.int (Int.ofNat m))),(aQ,.dat (.str [k0,k1,k2,k3,k4,k5]))] X' (bO Y (.str eO)) (ZK Z late bad k0 k1 k2 k3 k4 k5) c1 c2 bad [k0,k1,k2,k3,k4]) (.dat (.str m4)) (KL r j w nm gap 2 late [(aI,.dat .non),(aL,.dat .non),(dT,.dat (.int (Int.ofNat m))),(aQ,.dat (.str [k0,k1,k2,k3,k4,k5]))] X' Y4 Z4 c1 c2 bad [k0,k1,k2,k3,k4]))
  (n9:CallOk z.c 1 839 [.ref 5,.dat (Item.doc nm (some m4) none true).toD] (KL r j w nm gap 2 late [(aI,.dat (.str m4)),(aL,.dat .non),(dT,.dat (.int (Int.ofNat m))),(aQ,.dat (.str [k0,k1,k2,k3,k4,k5]))] X' Y4 Z4 c1 c2 bad [k0,k1,k2,k3,k4]) (.dat e) (KL r j w nm gap 2 late [(aI,.dat (.str m4)),(aL,.dat .non),(dT,.dat (.int (Int.ofNat m))),(aQ,.dat (.str [k0,k1,k2,k3,k4,k5]))] X' Y4 Z4 c1 c2 bad [k0,k1,k2,k3,k4])):
  RX z.c cO.names 7 FD (DT r j w nm gap 2 late X Y Z c1 c2 bad) (cO.body.drop 14) (.ret (.ref 6)) (KL r j w nm gap 2 late [(aI,.dat (.str m4)),(aL,.dat .non),(dT,.dat (.int (Int.ofNat m))),(aQ,.dat (.str [k0,k1,k2,k3,k4,k5]))] X' Y4 (bO Z4 (cT 62 e)) c1 c2 bad [k0,k1,k2,k3,k4]):=
 z.useX (hs:=[.cll 822 1 (.dat (.int (Int.ofNat m))) (DH (FT r j w nm gap 2 late lW) X' Y (bO Z (cT 32 late)) c1 c2 (some (.dat bad))),.cal 787 1 [] (.dat (.lst (aB cZ))) [],.val 1307030061 (.dat (.int (Int.ofNat kk))),.sub 1307014062 (.dat (.str [k0,k1,k2,k3,k4,k5])),.val 1310011021 (.dat (.int 1)),.cal 794 1 [] (.dat (.lst (aB aM))) [],.val 1317077087 (.dat (.int (Int.ofNat pk))),.sub 1317063088 (.dat (.str w4)),.val 1317096106 (.dat (.int (Int.ofNat pj))),.sub 1317090107 (.dat (.str [q4])),.cll 888 3 (.dat (.str m4)) (KL r j w nm gap 2 late [(aI,.dat .non),(aL,.dat .non),(dT,.dat (.int (Int.ofNat m))),(aQ,.dat (.str [k0,k1,k2,k3,k4,k5]))] X' Y4 Z4 c1 c2 bad [k0,k1,k2,k3,k4]),.cll 839 1 (.dat e) (KL r j w nm gap 2 late [(aI,.dat (.str m4)),(aL,.dat .non),(dT,.dat (.int (Int.ofNat m))),(aQ,.dat (.str [k0,k1,k2,k3,k4,k5]))] X' Y4 Z4 c1 c2 bad [k0,k1,k2,k3,k4])]) (g:=cg [(true,Nat.ble (Z4).length lim),(true,!Builtin.divisionGoesByPylong (Int.ofNat m) 4),(true,!Builtin.divisionGoesByPylong (Int.ofNat m) 8),(true,Nat.ble (Y).length lim),(true,!Builtin.divisionGoesByPylong (Int.ofNat m) 2),(true,Nat.ble ((bO Z (cT 32 late))++gY [k0,k1,k2,k3,k4] bad).length lim),(true,Nat.ble ((bO Z (cT 32 late)).length+5) lim),(true,Nat.ble (Z).length lim)]) (aA z9 (aA d4 (aA d8 (aA y1 (aA d2 (aA z3 (aA z2 (aA z1 aH)))))))) (an n9 (an pf (an pe (an pd (an pc (an pb (an pa (an n5 (an n4 (an n3 (an n2 (an n1 trivial)))))))))))) (by kernel_rfl)
theorem Iy {m kk pk pj q4 k0 k1 k2 k3 k4 k5:Nat}{w4 m4:Nm}{Y4 Z4:List V}(z1:Nat.ble (Z).length lim=true)(z2:Nat.ble ((bO Z (cT 32 late)).length+5) lim=true)(z3:Nat.ble ((bO Z (cT 32 late))++gY [k0,k1,k2,k3,k4] bad).length lim=true)(d2:(!Builtin.divisionGoesByPylong (Int.ofNat m) 2)=true)(z4:Nat.ble ((ZK Z late bad k0 k1 k2 k3 k4 k5)).length lim=true)(d8:(!Builtin.divisionGoesByPylong (Int.ofNat m) 8)=true)(d4:(!Builtin.divisionGoesByPylong (Int.ofNat m) 4)=true)(z9:Nat.ble (Z4).length lim=true)
  (n1:CallOk z.c 1 822 [.ref 0] (DH (FT r j w nm gap 4 late lW) X Y (bO Z (cT 32 late)) c1 c2 (some (.dat bad))) (.dat (.int (Int.ofNat m))) (DH (FT r j w nm gap 4 late lW) X' Y (bO Z (cT 32 late)) c1 c2 (some (.dat bad))))
  (n2:CallOk z.c 1 787 [] [] (.dat (.lst (aB cZ))) [])
  (n3:(V.dat (.int (Int.fmod (Int.ofNat m) 2+2)):V)=.dat (.int (Int.ofNat kk)))
  (n4:(∀ hp,bZ z.c 7 hp getItem z.c.VT (.dat (.lst (aB cZ))) (.dat (.int (Int.ofNat kk))) (.dat (.str [k0,k1,k2,k3,k4,k5])) hp))
  (n5:(V.dat (.int (Int.fmod (Int.fdiv (Int.ofNat m) 2) 2)):V)=.dat (.int 0))
  (pa:CallOk z.c 1 794 [] [] (.dat (.lst (aB aM))) [])
  (pb:(V.dat (.int (Int.fmod (Int.fdiv (Int.ofNat m) 8) 4)):V)=.dat (.int (Int.ofNat pk)))
  (pc:(∀ hp,bZ z.c 7 hp getItem z.c.VT (.dat (.lst (aB aM))) (.dat (.int (Int.ofNat pk))) (.dat (.str w4)) hp))
  (pd:(V.dat (.int (Int.fmod (Int.fdiv (Int.ofNat m) 4) 2)):V)=.dat (.int (Int.ofNat pj)))
  (pe:(∀ hp,bZ z.c 7 hp getItem z.c.VT (.dat (.str [34,39])) (.dat (.int (Int.ofNat pj))) (.dat (.str [q4])) hp))
  (pf:CallOk z.c 3 888 [.ref 6,.ref 5,.dat (.str nm),.dat .non,.dat (.str []),.dat (.str w4),.dat (.str [q4])] (KL r j w nm gap 4 late [(aI,.dat .non),(aL,.dat .non),(dT,.dat (.int (Int.ofNat m))),(aQ,.dat (.str [k0,k1,k2,k3,k4,k5]))] X' Y (bO (ZK Z late bad k0 k1 k2 k3 k4 k5) (cT 32 late)) c1 c2 bad [k0,k1,k2,k3,k4]) (.dat (.str m4)) (KL r j w nm gap 4 late [(aI,.dat .non),(aL,.dat .non),(dT,.dat (.int (Int.ofNat m))),(aQ,.dat (.str [k0,k1,k2,k3,k4,k5]))] X' Y4 Z4 c1 c2 bad [k0,k1,k2,k3,k4]))
  (n9:CallOk z.c 1 839 [.ref 5,.dat (Item.doc nm none (some m4) true).toD] (KL r j w nm gap 4 late [(aI,.dat .non),(aL,.dat (.str m4)),(dT,.dat (.int (Int.ofNat m))),(aQ,.dat (.str [k0,k1,k2,k3,k4,k5]))] X' Y4 Z4 c1 c2 bad [k0,k1,k2,k3,k4]) (.dat e) (KL r j w nm gap 4 late [(aI,.dat .non),(aL,.dat (.str m4)),(dT,.dat (.int (Int.ofNat m))),(aQ,.dat (.str [k0,k1,k2,k3,k4,k5]))] X' Y4 Z4 c1 c2 bad [k0,k1,k2,k3,k4])):
  RX z.c cO.names 7 FD (DT r j w nm gap 4 late X Y Z c1 c2 bad) (cO.body.drop 14) (.ret (.ref 6)) (KL r j w nm gap 4 late [(aI,.dat .non),(aL,.dat (.str m4)),(dT,.dat (.int (Int.ofNat m))),(aQ,.dat (.str [k0,k1,k2,k3,k4,k5]))] X' Y4 (bO Z4 (cT 62 e)) c1 c2 bad [k0,k1,k2,k3,k4]):=
 z.useX (hs:=[.cll 822 1 (.dat (.int (Int.ofNat m))) (DH (FT r j w nm gap 4 late lW) X' Y (bO Z (cT 32 late)) c1 c2 (some (.dat bad))),.cal 787 1 [] (.dat (.lst (aB cZ))) [],.val 1307030061 (.dat (.int (Int.ofNat kk))),.sub 1307014062 (.dat (.str [k0,k1,k2,k3,k4,k5])),.val 1310011021 (.dat (.int 0)),.cal 794 1 [] (.dat (.lst (aB aM))) [],.val 1315074084 (.dat (.int (Int.ofNat pk))),.sub 1315060085 (.dat (.str w4)),.val 1315093103 (.dat (.int (Int.ofNat pj))),.sub 1315087104 (.dat (.str [q4])),.cll 888 3 (.dat (.str m4)) (KL r j w nm gap 4 late [(aI,.dat .non),(aL,.dat .non),(dT,.dat (.int (Int.ofNat m))),(aQ,.dat (.str [k0,k1,k2,k3,k4,k5]))] X' Y4 Z4 c1 c2 bad [k0,k1,k2,k3,k4]),.cll 839 1 (.dat e) (KL r j w nm gap 4 late [(aI,.dat .non),(aL,.dat (.str m4)),(dT,.dat (.int (Int.ofNat m))),(aQ,.dat (.str [k0,k1,k2,k3,k4,k5]))] X' Y4 Z4 c1 c2 bad [k0,k1,k2,k3,k4])]) (g:=cg [(true,Nat.ble (Z4).length lim),(true,!Builtin.divisionGoesByPylong (Int.ofNat m) 4),(true,!Builtin.divisionGoesByPylong (Int.ofNat m) 8),(true,Nat.ble ((ZK Z late bad k0 k1 k2 k3 k4 k5)).length lim),(true,!Builtin.divisionGoesByPylong (Int.ofNat m) 2),(true,Nat.ble ((bO Z (cT 32 late))++gY [k0,k1,k2,k3,k4] bad).length lim),(true,Nat.ble ((bO Z (cT 32 late)).length+5) lim),(true,Nat.ble (Z).length lim)]) (aA z9 (aA d4 (aA d8 (aA z4 (aA d2 (aA z3 (aA z2 (aA z1 aH)))))))) (an n9 (an pf (an pe (an pd (an pc (an pb (an pa (an n5 (an n4 (an n3 (an n2 (an n1 trivial)))))))))))) (by kernel_rfl)
theorem Iz {m kk pk pj q4 k0 k1 k2 k3 k4 k5:Nat}{w4 m4:Nm}{Y4 Z4:List V}(z1:Nat.ble (Z).length lim=true)(z2:Nat.ble ((bO Z (cT 32 late)).length+5) lim=true)(z3:Nat.ble ((bO Z (cT 32 late))++gY [k0,k1,k2,k3,k4] bad).length lim=true)(d2:(!Builtin.divisionGoesByPylong (Int.ofNat m) 2)=true)(y1:Nat.ble (Y).length lim=true)(d8:(!Builtin.divisionGoesByPylong (Int.ofNat m) 8)=true)(d4:(!Builtin.divisionGoesByPylong (Int.ofNat m) 4)=true)(z9:Nat.ble (Z4).length lim=true)
  (n1:CallOk z.c 1 822 [.ref 0] (DH (FT r j w nm gap 4 late lW) X Y (bO Z (cT 32 late)) c1 c2 (some (.dat bad))) (.dat (.int (Int.ofNat m))) (DH (FT r j w nm gap 4 late lW) X' Y (bO Z (cT 32 late)) c1 c2 (some (.dat bad))))
  (n2:CallOk z.c 1 787 [] [] (.dat (.lst (aB cZ))) [])
  (n3:(V.dat (.int (Int.fmod (Int.ofNat m) 2+2)):V)=.dat (.int (Int.ofNat kk)))
  (n4:(∀ hp,bZ z.c 7 hp getItem z.c.VT (.dat (.lst (aB cZ))) (.dat (.int (Int.ofNat kk))) (.dat (.str [k0,k1,k2,k3,k4,k5])) hp))
  (n5:(V.dat (.int (Int.fmod (Int.fdiv (Int.ofNat m) 2) 2)):V)=.dat (.int 1))
  (pa:CallOk z.c 1 794 [] [] (.dat (.lst (aB aM))) [])
  (pb:(V.dat (.int (Int.fmod (Int.fdiv (Int.ofNat m) 8) 4)):V)=.dat (.int (Int.ofNat pk)))
  (pc:(∀ hp,bZ z.c 7 hp getItem z.c.VT (.dat (.lst (aB aM))) (.dat (.int (Int.ofNat pk))) (.dat (.str w4)) hp))
  (pd:(V.dat (.int (Int.fmod (Int.fdiv (Int.ofNat m) 4) 2)):V)=.dat (.int (Int.ofNat pj)))
  (pe:(∀ hp,bZ z.c 7 hp getItem z.c.VT (.dat (.str [34,39])) (.dat (.int (Int.ofNat pj))) (.dat (.str [q4])) hp))
  (pf:CallOk z.c 3 888 [.ref 6,.ref 5,.dat (.str nm),.dat .non,.dat (.str []),.dat (.str w4),.dat (.str [q4])] (KL r j w nm gap 4 late [(aI,.dat .non),(aL,.dat .non),(dT,.dat (.int (Int.ofNat m))),(aQ,.dat (.str [k0,k1,k2,k3,k4,k5]))] X' (bO Y (.str eO)) (ZK Z late bad k0 k1 k2 k3 k4 k5) c1 c2 bad [k0,k1,k2,k3,k4]) (.dat (.str m4)) (KL r j w nm gap 4 late [(aI,.dat .non),(aL,.dat .non),(dT,.dat (.int (Int.ofNat m))),(aQ,.dat (.str [k0,k1,k2,k3,k4,k5]))] X' Y4 Z4 c1 c2 bad [k0,k1,k2,k3,k4]))
  (n9:CallOk z.c 1 839 [.ref 5,.dat (Item.doc nm none (some m4) true).toD] (KL r j w nm gap 4 late [(aI,.dat .non),(aL,.dat (.str m4)),(dT,.dat (.int (Int.ofNat m))),(aQ,.dat (.str [k0,k1,k2,k3,k4,k5]))] X' Y4 Z4 c1 c2 bad [k0,k1,k2,k3,k4]) (.dat e) (KL r j w nm gap 4 late [(aI,.dat .non),(aL,.dat (.str m4)),(dT,.dat (.int (Int.ofNat m))),(aQ,.dat (.str [k0,k1,k2,k3,k4,k5]))] X' Y4 Z4 c1 c2 bad [k0,k1,k2,k3,k4])):
  RX z.c cO.names 7 FD (DT r j w nm gap 4 late X Y Z c1 c2 bad) (cO.body.drop 14) (.ret (.ref 6)) (KL r j w nm gap 4 late [(aI,.dat .non),(aL,.dat (.str m4)),(dT,.dat (.int (Int.ofNat m))),(aQ,.dat (.str [k0,k1,k2,k3,k4,k5]))] X' Y4 (bO Z4 (cT 62 e)) c1 c2 bad [k0,k1,k2,k3,k4]):=
 z.useX (hs:=[.cll 822 1 (.dat (.int (Int.ofNat m))) (DH (FT r j w nm gap 4 late lW) X' Y (bO Z (cT 32 late)) c1 c2 (some (.dat bad))),.cal 787 1 [] (.dat (.lst (aB cZ))) [],.val 1307030061 (.dat (.int (Int.ofNat kk))),.sub 1307014062 (.dat (.str [k0,k1,k2,k3,k4,k5])),.val 1310011021 (.dat (.int 1)),.cal 794 1 [] (.dat (.lst (aB aM))) [],.val 1315074084 (.dat (.int (Int.ofNat pk))),.sub 1315060085 (.dat (.str w4)),.val 1315093103 (.dat (.int (Int.ofNat pj))),.sub 1315087104 (.dat (.str [q4])),.cll 888 3 (.dat (.str m4)) (KL r j w nm gap 4 late [(aI,.dat .non),(aL,.dat .non),(dT,.dat (.int (Int.ofNat m))),(aQ,.dat (.str [k0,k1,k2,k3,k4,k5]))] X' Y4 Z4 c1 c2 bad [k0,k1,k2,k3,k4]),.cll 839 1 (.dat e) (KL r j w nm gap 4 late [(aI,.dat .non),(aL,.dat (.str m4)),(dT,.dat (.int (Int.ofNat m))),(aQ,.dat (.str [k0,k1,k2,k3,k4,k5]))] X' Y4 Z4 c1 c2 bad [k0,k1,k2,k3,k4])]) (g:=cg [(true,Nat.ble (Z4).length lim),(true,!Builtin.divisionGoesByPylong (Int.ofNat m) 4),(true,!Builtin.divisionGoesByPylong (Int.ofNat m) 8),(true,Nat.ble (Y).length lim),(true,!Builtin.divisionGoesByPylong (Int.ofNat m) 2),(true,Nat.ble ((bO Z (cT 32 late))++gY [k0,k1,k2,k3,k4] bad).length lim),(true,Nat.ble ((bO Z (cT 32 late)).length+5) lim),(true,Nat.ble (Z).length lim)]) (aA z9 (aA d4 (aA d8 (aA y1 (aA d2 (aA z3 (aA z2 (aA z1 aH)))))))) (an n9 (an pf (an pe (an pd (an pc (an pb (an pa (an n5 (an n4 (an n3 (an n2 (an n1 trivial)))))))))))) (by kernel_rfl)
theorem FE {m kk pk pj q4 k0 k1 k2 k3 k4 k5:Nat}{w4 m4:Nm}{Y4 Z4:List V}{sk sj q6:Nat}{w6 m6:Nm}{e3:D}{Y6 Z6:List V}(z1:Nat.ble (Z).length lim=true)(z2:Nat.ble ((bO Z (cT 32 late)).length+5) lim=true)(z3:Nat.ble ((bO Z (cT 32 late))++gY [k0,k1,k2,k3,k4] bad).length lim=true)(d2:(!Builtin.divisionGoesByPylong (Int.ofNat m) 2)=true)(z4:Nat.ble ((ZK Z late bad k0 k1 k2 k3 k4 k5)).length lim=true)(d8:(!Builtin.divisionGoesByPylong (Int.ofNat m) 8)=true)(d4:(!Builtin.divisionGoesByPylong (Int.ofNat m) 4)=true)(d32:(!Builtin.divisionGoesByPylong (Int.ofNat m) 32)=true)(y2:Nat.ble (Y4.length+1) lim=true)(z5:Nat.ble (Z4).length lim=true)(d128:(!Builtin.divisionGoesByPylong (Int.ofNat m) 128)=true)(d64:(!Builtin.divisionGoesByPylong (Int.ofNat m) 64)=true)(z9:Nat.ble (Z6).length lim=true)
  (n1:CallOk z.c 1 822 [.ref 0] (DH (FT r j w nm gap 3 late lW) X Y (bO Z (cT 32 late)) c1 c2 (some (.dat bad))) (.dat (.int (Int.ofNat m))) (DH (FT r j w nm gap 3 late lW) X' Y (bO Z (cT 32 late)) c1 c2 (some (.dat bad))))
  (n2:CallOk z.c 1 787 [] [] (.dat (.lst (aB cZ))) [])
  (n3:(V.dat (.int (Int.fmod (Int.ofNat m) 2+0)):V)=.dat (.int (Int.ofNat kk)))
  (n4:(∀ hp,bZ z.c 7 hp getItem z.c.VT (.dat (.lst (aB cZ))) (.dat (.int (Int.ofNat kk))) (.dat (.str [k0,k1,k2,k3,k4,k5])) hp))
  (n5:(V.dat (.int (Int.fmod (Int.fdiv (Int.ofNat m) 2) 2)):V)=.dat (.int 0))
  (pa:CallOk z.c 1 794 [] [] (.dat (.lst (aB aM))) [])
  (pb:(V.dat (.int (Int.fmod (Int.fdiv (Int.ofNat m) 8) 4)):V)=.dat (.int (Int.ofNat pk)))
  (pc:(∀ hp,bZ z.c 7 hp getItem z.c.VT (.dat (.lst (aB aM))) (.dat (.int (Int.ofNat pk))) (.dat (.str w4)) hp))
  (pd:(V.dat (.int (Int.fmod (Int.fdiv (Int.ofNat m) 4) 2)):V)=.dat (.int (Int.ofNat pj)))
  (pe:(∀ hp,bZ z.c 7 hp getItem z.c.VT (.dat (.str [34,39])) (.dat (.int (Int.ofNat pj))) (.dat (.str [q4])) hp))
  (pf:CallOk z.c 3 888 [.ref 6,.ref 5,.dat (.str nm),.dat .non,.dat .non,.dat (.str w4),.dat (.str [q4])] (KL r j w nm gap 3 late [(aI,.dat .non),(aL,.dat .non),(dT,.dat (.int (Int.ofNat m))),(aQ,.dat (.str [k0,k1,k2,k3,k4,k5]))] X' Y (bO (ZK Z late bad k0 k1 k2 k3 k4 k5) (cT 32 late)) c1 c2 bad [k0,k1,k2,k3,k4]) (.dat (.str m4)) (KL r j w nm gap 3 late [(aI,.dat .non),(aL,.dat .non),(dT,.dat (.int (Int.ofNat m))),(aQ,.dat (.str [k0,k1,k2,k3,k4,k5]))] X' Y4 Z4 c1 c2 bad [k0,k1,k2,k3,k4]))
  (n6:(V.dat (.int (Int.fmod (Int.fdiv (Int.ofNat m) 32) 2)):V)=.dat (.int 0))
  (n7:CallOk z.c 1 839 [.ref 10,.dat (Item.doc nm (some m4) none false).toD] (KJ r j w nm gap 3 late [(aI,.dat (.str m4)),(aL,.dat .non),(dT,.dat (.int (Int.ofNat m))),(aQ,.dat (.str [k0,k1,k2,k3,k4,k5]))] X' Y4 Z4 c1 c2 bad [k0,k1,k2,k3,k4]) (.dat e3) (KJ r j w nm gap 3 late [(aI,.dat (.str m4)),(aL,.dat .non),(dT,.dat (.int (Int.ofNat m))),(aQ,.dat (.str [k0,k1,k2,k3,k4,k5]))] X' Y4 Z4 c1 c2 bad [k0,k1,k2,k3,k4]))
  (sa:CallOk z.c 1 794 [] [] (.dat (.lst (aB aM))) [])
  (sb:(V.dat (.int (Int.fmod (Int.fdiv (Int.ofNat m) 128) 4)):V)=.dat (.int (Int.ofNat sk)))
  (sc:(∀ hp,bZ z.c 7 hp getItem z.c.VT (.dat (.lst (aB aM))) (.dat (.int (Int.ofNat sk))) (.dat (.str w6)) hp))
  (sd:(V.dat (.int (Int.fmod (Int.fdiv (Int.ofNat m) 64) 2)):V)=.dat (.int (Int.ofNat sj)))
  (se:(∀ hp,bZ z.c 7 hp getItem z.c.VT (.dat (.str [34,39])) (.dat (.int (Int.ofNat sj))) (.dat (.str [q6])) hp))
  (sf:CallOk z.c 3 888 [.ref 6,.ref 5,.dat (.str nm),.dat (.str m4),.dat (.str []),.dat (.str w6),.dat (.str [q6])] (uY r j w nm gap 3 late [(aI,.dat (.str m4)),(aL,.dat .non),(dT,.dat (.int (Int.ofNat m))),(aQ,.dat (.str [k0,k1,k2,k3,k4,k5]))] X' Y4 (bO Z4 (cT 32 e3)) c1 c2 bad [k0,k1,k2,k3,k4] Y4) (.dat (.str m6)) (uY r j w nm gap 3 late [(aI,.dat (.str m4)),(aL,.dat .non),(dT,.dat (.int (Int.ofNat m))),(aQ,.dat (.str [k0,k1,k2,k3,k4,k5]))] X' Y6 Z6 c1 c2 bad [k0,k1,k2,k3,k4] Y4))
  (n9:CallOk z.c 1 839 [.ref 5,.dat (Item.doc nm (some m4) (some m6) true).toD] (uY r j w nm gap 3 late [(aI,.dat (.str m4)),(aL,.dat (.str m6)),(dT,.dat (.int (Int.ofNat m))),(aQ,.dat (.str [k0,k1,k2,k3,k4,k5]))] X' Y6 Z6 c1 c2 bad [k0,k1,k2,k3,k4] Y4) (.dat e) (uY r j w nm gap 3 late [(aI,.dat (.str m4)),(aL,.dat (.str m6)),(dT,.dat (.int (Int.ofNat m))),(aQ,.dat (.str [k0,k1,k2,k3,k4,k5]))] X' Y6 Z6 c1 c2 bad [k0,k1,k2,k3,k4] Y4)):
  RX z.c cO.names 7 FD (DT r j w nm gap 3 late X Y Z c1 c2 bad) (cO.body.drop 14) (.ret (.ref 6)) (uY r j w nm gap 3 late [(aI,.dat (.str m4)),(aL,.dat (.str m6)),(dT,.dat (.int (Int.ofNat m))),(aQ,.dat (.str [k0,k1,k2,k3,k4,k5]))] X' Y6 (bO Z6 (cT 62 e)) c1 c2 bad [k0,k1,k2,k3,k4] Y4):=
 z.useX (hs:=[.cll 822 1 (.dat (.int (Int.ofNat m))) (DH (FT r j w nm gap 3 late lW) X' Y (bO Z (cT 32 late)) c1 c2 (some (.dat bad))),.cal 787 1 [] (.dat (.lst (aB cZ))) [],.val 1307030061 (.dat (.int (Int.ofNat kk))),.sub 1307014062 (.dat (.str [k0,k1,k2,k3,k4,k5])),.val 1310011021 (.dat (.int 0)),.cal 794 1 [] (.dat (.lst (aB aM))) [],.val 1317077087 (.dat (.int (Int.ofNat pk))),.sub 1317063088 (.dat (.str w4)),.val 1317096106 (.dat (.int (Int.ofNat pj))),.sub 1317090107 (.dat (.str [q4])),.cll 888 3 (.dat (.str m4)) (KL r j w nm gap 3 late [(aI,.dat .non),(aL,.dat .non),(dT,.dat (.int (Int.ofNat m))),(aQ,.dat (.str [k0,k1,k2,k3,k4,k5]))] X' Y4 Z4 c1 c2 bad [k0,k1,k2,k3,k4]),.val 1319015026 (.dat (.int 0)),.cll 839 1 (.dat e3) (KJ r j w nm gap 3 late [(aI,.dat (.str m4)),(aL,.dat .non),(dT,.dat (.int (Int.ofNat m))),(aQ,.dat (.str [k0,k1,k2,k3,k4,k5]))] X' Y4 Z4 c1 c2 bad [k0,k1,k2,k3,k4]),.cal 794 1 [] (.dat (.lst (aB aM))) [],.val 1323075087 (.dat (.int (Int.ofNat sk))),.sub 1323061088 (.dat (.str w6)),.val 1323096107 (.dat (.int (Int.ofNat sj))),.sub 1323090108 (.dat (.str [q6])),.cll 888 3 (.dat (.str m6)) (uY r j w nm gap 3 late [(aI,.dat (.str m4)),(aL,.dat .non),(dT,.dat (.int (Int.ofNat m))),(aQ,.dat (.str [k0,k1,k2,k3,k4,k5]))] X' Y6 Z6 c1 c2 bad [k0,k1,k2,k3,k4] Y4),.cll 839 1 (.dat e) (uY r j w nm gap 3 late [(aI,.dat (.str m4)),(aL,.dat (.str m6)),(dT,.dat (.int (Int.ofNat m))),(aQ,.dat (.str [k0,k1,k2,k3,k4,k5]))] X' Y6 Z6 c1 c2 bad [k0,k1,k2,k3,k4] Y4)]) (g:=cg [(true,Nat.ble (Z6).length lim),(true,!Builtin.divisionGoesByPylong (Int.ofNat m) 64),(true,!Builtin.divisionGoesByPylong (Int.ofNat m) 128),(true,Nat.ble (Z4).length lim),(true,Nat.ble (Y4.length+1) lim),(true,!Builtin.divisionGoesByPylong (Int.ofNat m) 32),(true,!Builtin.divisionGoesByPylong (Int.ofNat m) 4),(true,!Builtin.divisionGoesByPylong (Int.ofNat m) 8),(true,Nat.ble ((ZK Z late bad k0 k1 k2 k3 k4 k5)).length lim),(true,!Builtin.divisionGoesByPylong (Int.ofNat m) 2),(true,Nat.ble ((bO Z (cT 32 late))++gY [k0,k1,k2,k3,k4] bad).length lim),(true,Nat.ble ((bO Z (cT 32 late)).length+5) lim),(true,Nat.ble (Z).length lim)]) (aA z9 (aA d64 (aA d128 (aA z5 (aA y2 (aA d32 (aA d4 (aA d8 (aA z4 (aA d2 (aA z3 (aA z2 (aA z1 aH))))))))))))) (an n9 (an sf (an se (an sd (an sc (an sb (an sa (an n7 (an n6 (an pf (an pe (an pd (an pc (an pb (an pa (an n5 (an n4 (an n3 (an n2 (an n1 trivial)))))))))))))))))))) (by kernel_rfl)
theorem FF {m kk pk pj q4 k0 k1 k2 k3 k4 k5:Nat}{w4 m4:Nm}{Y4 Z4:List V}{sk sj q6:Nat}{w6 m6:Nm}{e3:D}{Y6 Z6:List V}(z1:Nat.ble (Z).length lim=true)(z2:Nat.ble ((bO Z (cT 32 late)).length+5) lim=true)(z3:Nat.ble ((bO Z (cT 32 late))++gY [k0,k1,k2,k3,k4] bad).length lim=true)(d2:(!Builtin.divisionGoesByPylong (Int.ofNat m) 2)=true)(z4:Nat.ble ((ZK Z late bad k0 k1 k2 k3 k4 k5)).length lim=true)(d8:(!Builtin.divisionGoesByPylong (Int.ofNat m) 8)=true)(d4:(!Builtin.divisionGoesByPylong (Int.ofNat m) 4)=true)(d32:(!Builtin.divisionGoesByPylong (Int.ofNat m) 32)=true)(y2:Nat.ble (Y4).length lim=true)(d128:(!Builtin.divisionGoesByPylong (Int.ofNat m) 128)=true)(d64:(!Builtin.divisionGoesByPylong (Int.ofNat m) 64)=true)(z9:Nat.ble (Z6).length lim=true)
  (n1:CallOk z.c 1 822 [.ref 0] (DH (FT r j w nm gap 3 late lW) X Y (bO Z (cT 32 late)) c1 c2 (some (.dat bad))) (.dat (.int (Int.ofNat m))) (DH (FT r j w nm gap 3 late lW) X' Y (bO Z (cT 32 late)) c1 c2 (some (.dat bad))))
  (n2:CallOk z.c 1 787 [] [] (.dat (.lst (aB cZ))) [])
  (n3:(V.dat (.int (Int.fmod (Int.ofNat m) 2+0)):V)=.dat (.int (Int.ofNat kk)))
  (n4:(∀ hp,bZ z.c 7 hp getItem z.c.VT (.dat (.lst (aB cZ))) (.dat (.int (Int.ofNat kk))) (.dat (.str [k0,k1,k2,k3,k4,k5])) hp))
  (n5:(V.dat (.int (Int.fmod (Int.fdiv (Int.ofNat m) 2) 2)):V)=.dat (.int 0))
  (pa:CallOk z.c 1 794 [] [] (.dat (.lst (aB aM))) [])
  (pb:(V.dat (.int (Int.fmod (Int.fdiv (Int.ofNat m) 8) 4)):V)=.dat (.int (Int.ofNat pk)))
  (pc:(∀ hp,bZ z.c 7 hp getItem z.c.VT (.dat (.lst (aB aM))) (.dat (.int (Int.ofNat pk))) (.dat (.str w4)) hp))
  (pd:(V.dat (.int (Int.fmod (Int.fdiv (Int.ofNat m) 4) 2)):V)=.dat (.int (Int.ofNat pj)))
  (pe:(∀ hp,bZ z.c 7 hp getItem z.c.VT (.dat (.str [34,39])) (.dat (.int (Int.ofNat pj))) (.dat (.str [q4])) hp))
  (pf:CallOk z.c 3 888 [.ref 6,.ref 5,.dat (.str nm),.dat .non,.dat .non,.dat (.str w4),.dat (.str [q4])] (KL r j w nm gap 3 late [(aI,.dat .non),(aL,.dat .non),(dT,.dat (.int (Int.ofNat m))),(aQ,.dat (.str [k0,k1,k2,k3,k4,k5]))] X' Y (bO (ZK Z late bad k0 k1 k2 k3 k4 k5) (cT 32 late)) c1 c2 bad [k0,k1,k2,k3,k4]) (.dat (.str m4)) (KL r j w nm gap 3 late [(aI,.dat .non),(aL,.dat .non),(dT,.dat (.int (Int.ofNat m))),(aQ,.dat (.str [k0,k1,k2,k3,k4,k5]))] X' Y4 Z4 c1 c2 bad [k0,k1,k2,k3,k4]))
  (n6:(V.dat (.int (Int.fmod (Int.fdiv (Int.ofNat m) 32) 2)):V)=.dat (.int 1))
  (sa:CallOk z.c 1 794 [] [] (.dat (.lst (aB aM))) [])
  (sb:(V.dat (.int (Int.fmod (Int.fdiv (Int.ofNat m) 128) 4)):V)=.dat (.int (Int.ofNat sk)))
  (sc:(∀ hp,bZ z.c 7 hp getItem z.c.VT (.dat (.lst (aB aM))) (.dat (.int (Int.ofNat sk))) (.dat (.str w6)) hp))
  (sd:(V.dat (.int (Int.fmod (Int.fdiv (Int.ofNat m) 64) 2)):V)=.dat (.int (Int.ofNat sj)))
  (se:(∀ hp,bZ z.c 7 hp getItem z.c.VT (.dat (.str [34,39])) (.dat (.int (Int.ofNat sj))) (.dat (.str [q6])) hp))
  (sf:CallOk z.c 3 888 [.ref 6,.ref 5,.dat (.str nm),.dat (.str m4),.dat (.str []),.dat (.str w6),.dat (.str [q6])] (KL r j w nm gap 3 late [(aI,.dat (.str m4)),(aL,.dat .non),(dT,.dat (.int (Int.ofNat m))),(aQ,.dat (.str [k0,k1,k2,k3,k4,k5]))] X' (bO Y4 (.str eO)) Z4 c1 c2 bad [k0,k1,k2,k3,k4]) (.dat (.str m6)) (KL r j w nm gap 3 late [(aI,.dat (.str m4)),(aL,.dat .non),(dT,.dat (.int (Int.ofNat m))),(aQ,.dat (.str [k0,k1,k2,k3,k4,k5]))] X' Y6 Z6 c1 c2 bad [k0,k1,k2,k3,k4]))
  (n9:CallOk z.c 1 839 [.ref 5,.dat (Item.doc nm (some m4) (some m6) true).toD] (KL r j w nm gap 3 late [(aI,.dat (.str m4)),(aL,.dat (.str m6)),(dT,.dat (.int (Int.ofNat m))),(aQ,.dat (.str [k0,k1,k2,k3,k4,k5]))] X' Y6 Z6 c1 c2 bad [k0,k1,k2,k3,k4]) (.dat e) (KL r j w nm gap 3 late [(aI,.dat (.str m4)),(aL,.dat (.str m6)),(dT,.dat (.int (Int.ofNat m))),(aQ,.dat (.str [k0,k1,k2,k3,k4,k5]))] X' Y6 Z6 c1 c2 bad [k0,k1,k2,k3,k4])):
  RX z.c cO.names 7 FD (DT r j w nm gap 3 late X Y Z c1 c2 bad) (cO.body.drop 14) (.ret (.ref 6)) (KL r j w nm gap 3 late [(aI,.dat (.str m4)),(aL,.dat (.str m6)),(dT,.dat (.int (Int.ofNat m))),(aQ,.dat (.str [k0,k1,k2,k3,k4,k5]))] X' Y6 (bO Z6 (cT 62 e)) c1 c2 bad [k0,k1,k2,k3,k4]):=
 z.useX (hs:=[.cll 822 1 (.dat (.int (Int.ofNat m))) (DH (FT r j w nm gap 3 late lW) X' Y (bO Z (cT 32 late)) c1 c2 (some (.dat bad))),.cal 787 1 [] (.dat (.lst (aB cZ))) [],.val 1307030061 (.dat (.int (Int.ofNat kk))),.sub 1307014062 (.dat (.str [k0,k1,k2,k3,k4,k5])),.val 1310011021 (.dat (.int 0)),.cal 794 1 [] (.dat (.lst (aB aM))) [],.val 1317077087 (.dat (.int (Int.ofNat pk))),.sub 1317063088 (.dat (.str w4)),.val 1317096106 (.dat (.int (Int.ofNat pj))),.sub 1317090107 (.dat (.str [q4])),.cll 888 3 (.dat (.str m4)) (KL r j w nm gap 3 late [(aI,.dat .non),(aL,.dat .non),(dT,.dat (.int (Int.ofNat m))),(aQ,.dat (.str [k0,k1,k2,k3,k4,k5]))] X' Y4 Z4 c1 c2 bad [k0,k1,k2,k3,k4]),.val 1319015026 (.dat (.int 1)),.cal 794 1 [] (.dat (.lst (aB aM))) [],.val 1323075087 (.dat (.int (Int.ofNat sk))),.sub 1323061088 (.dat (.str w6)),.val 1323096107 (.dat (.int (Int.ofNat sj))),.sub 1323090108 (.dat (.str [q6])),.cll 888 3 (.dat (.str m6)) (KL r j w nm gap 3 late [(aI,.dat (.str m4)),(aL,.dat .non),(dT,.dat (.int (Int.ofNat m))),(aQ,.dat (.str [k0,k1,k2,k3,k4,k5]))] X' Y6 Z6 c1 c2 bad [k0,k1,k2,k3,k4]),.cll 839 1 (.dat e) (KL r j w nm gap 3 late [(aI,.dat (.str m4)),(aL,.dat (.str m6)),(dT,.dat (.int (Int.ofNat m))),(aQ,.dat (.str [k0,k1,k2,k3,k4,k5]))] X' Y6 Z6 c1 c2 bad [k0,k1,k2,k3,k4])]) (g:=cg [(true,Nat.ble (Z6).length lim),(true,!Builtin.divisionGoesByPylong (Int.ofNat m) 64),(true,!Builtin.divisionGoesByPylong (Int.ofNat m) 128),(true,Nat.ble (Y4).length lim),(true,!Builtin.divisionGoesByPylong (Int.ofNat m) 32),(true,!Builtin.divisionGoesByPylong (Int.ofNat m) 4),(true,!Builtin.divisionGoesByPylong (Int.ofNat m) 8),(true,Nat.ble ((ZK Z late bad k0 k1 k2 k3 k4 k5)).length lim),(true,!Builtin.divisionGoesByPylong (Int.ofNat m) 2),(true,Nat.ble ((bO Z (cT 32 late))++gY [k0,k1,k2,k3,k4] bad).length lim),(true,Nat.ble ((bO Z (cT 32 late)).length+5) lim),(true,Nat.ble (Z).length lim)]) (aA z9 (aA d64 (aA d128 (aA y2 (aA d32 (aA d4 (aA d8 (aA z4 (aA d2 (aA z3 (aA z2 (aA z1 aH)))))))))))) (an n9 (an sf (an se (an sd (an sc (an sb (an sa (an n6 (an pf (an pe (an pd (an pc (an pb (an pa (an n5 (an n4 (an n3 (an n2 (an n1 trivial))))))))))))))))))) (by kernel_rfl)
theorem FG {m kk pk pj q4 k0 k1 k2 k3 k4 k5:Nat}{w4 m4:Nm}{Y4 Z4:List V}{sk sj q6:Nat}{w6 m6:Nm}{e3:D}{Y6 Z6:List V}(z1:Nat.ble (Z).length lim=true)(z2:Nat.ble ((bO Z (cT 32 late)).length+5) lim=true)(z3:Nat.ble ((bO Z (cT 32 late))++gY [k0,k1,k2,k3,k4] bad).length lim=true)(d2:(!Builtin.divisionGoesByPylong (Int.ofNat m) 2)=true)(y1:Nat.ble (Y).length lim=true)(d8:(!Builtin.divisionGoesByPylong (Int.ofNat m) 8)=true)(d4:(!Builtin.divisionGoesByPylong (Int.ofNat m) 4)=true)(d32:(!Builtin.divisionGoesByPylong (Int.ofNat m) 32)=true)(y2:Nat.ble (Y4.length+1) lim=true)(z5:Nat.ble (Z4).length lim=true)(d128:(!Builtin.divisionGoesByPylong (Int.ofNat m) 128)=true)(d64:(!Builtin.divisionGoesByPylong (Int.ofNat m) 64)=true)(z9:Nat.ble (Z6).length lim=true)
  (n1:CallOk z.c 1 822 [.ref 0] (DH (FT r j w nm gap 3 late lW) X Y (bO Z (cT 32 late)) c1 c2 (some (.dat bad))) (.dat (.int (Int.ofNat m))) (DH (FT r j w nm gap 3 late lW) X' Y (bO Z (cT 32 late)) c1 c2 (some (.dat bad))))
  (n2:CallOk z.c 1 787 [] [] (.dat (.lst (aB cZ))) [])
  (n3:(V.dat (.int (Int.fmod (Int.ofNat m) 2+0)):V)=.dat (.int (Int.ofNat kk)))
  (n4:(∀ hp,bZ z.c 7 hp getItem z.c.VT (.dat (.lst (aB cZ))) (.dat (.int (Int.ofNat kk))) (.dat (.str [k0,k1,k2,k3,k4,k5])) hp))
  (n5:(V.dat (.int (Int.fmod (Int.fdiv (Int.ofNat m) 2) 2)):V)=.dat (.int 1))
  (pa:CallOk z.c 1 794 [] [] (.dat (.lst (aB aM))) [])
  (pb:(V.dat (.int (Int.fmod (Int.fdiv (Int.ofNat m) 8) 4)):V)=.dat (.int (Int.ofNat pk)))
  (pc:(∀ hp,bZ z.c 7 hp getItem z.c.VT (.dat (.lst (aB aM))) (.dat (.int (Int.ofNat pk))) (.dat (.str w4)) hp))
  (pd:(V.dat (.int (Int.fmod (Int.fdiv (Int.ofNat m) 4) 2)):V)=.dat (.int (Int.ofNat pj)))
  (pe:(∀ hp,bZ z.c 7 hp getItem z.c.VT (.dat (.str [34,39])) (.dat (.int (Int.ofNat pj))) (.dat (.str [q4])) hp))
  (pf:CallOk z.c 3 888 [.ref 6,.ref 5,.dat (.str nm),.dat .non,.dat .non,.dat (.str w4),.dat (.str [q4])] (KL r j w nm gap 3 late [(aI,.dat .non),(aL,.dat .non),(dT,.dat (.int (Int.ofNat m))),(aQ,.dat (.str [k0,k1,k2,k3,k4,k5]))] X' (bO Y (.str eO)) (ZK Z late bad k0 k1 k2 k3 k4 k5) c1 c2 bad [k0,k1,k2,k3,k4]) (.dat (.str m4)) (KL r j w nm gap 3 late [(aI,.dat .non),(aL,.dat .non),(dT,.dat (.int (Int.ofNat m))),(aQ,.dat (.str [k0,k1,k2,k3,k4,k5]))] X' Y4 Z4 c1 c2 bad [k0,k1,k2,k3,k4]))
  (n6:(V.dat (.int (Int.fmod (Int.fdiv (Int.ofNat m) 32) 2)):V)=.dat (.int 0))
  (n7:CallOk z.c 1 839 [.ref 10,.dat (Item.doc nm (some m4) none false).toD] (KJ r j w nm gap 3 late [(aI,.dat (.str m4)),(aL,.dat .non),(dT,.dat (.int (Int.ofNat m))),(aQ,.dat (.str [k0,k1,k2,k3,k4,k5]))] X' Y4 Z4 c1 c2 bad [k0,k1,k2,k3,k4]) (.dat e3) (KJ r j w nm gap 3 late [(aI,.dat (.str m4)),(aL,.dat .non),(dT,.dat (.int (Int.ofNat m))),(aQ,.dat (.str [k0,k1,k2,k3,k4,k5]))] X' Y4 Z4 c1 c2 bad [k0,k1,k2,k3,k4]))
  (sa:CallOk z.c 1 794 [] [] (.dat (.lst (aB aM))) [])
  (sb:(V.dat (.int (Int.fmod (Int.fdiv (Int.ofNat m) 128) 4)):V)=.dat (.int (Int.ofNat sk)))
  (sc:(∀ hp,bZ z.c 7 hp getItem z.c.VT (.dat (.lst (aB aM))) (.dat (.int (Int.ofNat sk))) (.dat (.str w6)) hp))
  (sd:(V.dat (.int (Int.fmod (Int.fdiv (Int.ofNat m) 64) 2)):V)=.dat (.int (Int.ofNat sj)))
  (se:(∀ hp,bZ z.c 7 hp getItem z.c.VT (.dat (.str [34,39])) (.dat (.int (Int.ofNat sj))) (.dat (.str [q6])) hp))
  (sf:CallOk z.c 3 888 [.ref 6,.ref 5,.dat (.str nm),.dat (.str m4),.dat (.str []),.dat (.str w6),.dat (.str [q6])] (uY r j w nm gap 3 late [(aI,.dat (.str m4)),(aL,.dat .non),(dT,.dat (.int (Int.ofNat m))),(aQ,.dat (.str [k0,k1,k2,k3,k4,k5]))] X' Y4 (bO Z4 (cT 32 e3)) c1 c2 bad [k0,k1,k2,k3,k4] Y4) (.dat (.str m6)) (uY r j w nm gap 3 late [(aI,.dat (.str m4)),(aL,.dat .non),(dT,.dat (.int (Int.ofNat m))),(aQ,.dat (.str [k0,k1,k2,k3,k4,k5]))] X' Y6 Z6 c1 c2 bad [k0,k1,k2,k3,k4] Y4))
  (n9:CallOk z.c 1 839 [.ref 5,.dat (Item.doc nm (some m4) (some m6) true).toD] (uY r j w nm gap 3 late [(aI,.dat (.str m4)),(aL,.dat (.str m6)),(dT,.dat (.int (Int.ofNat m))),(aQ,.dat (.str [k0,k1,k2,k3,k4,k5]))] X' Y6 Z6 c1 c2 bad [k0,k1,k2,k3,k4] Y4) (.dat e) (uY r j w nm gap 3 late [(aI,.dat (.str m4)),(aL,.dat (.str m6)),(dT,.dat (.int (Int.ofNat m))),(aQ,.dat (.str [k0,k1,k2,k3,k4,k5]))] X' Y6 Z6 c1 c2 bad [k0,k1,k2,k3,k4] Y4)):
  RX z.c cO.names 7 FD (DT r j w nm gap 3 late X Y Z c1 c2 bad) (cO.body.drop 14) (.ret (.ref 6)) (uY r j w nm gap 3 late [(aI,.dat (.str m4)),(aL,.dat (.str m6)),(dT,.dat (.int (Int.ofNat m))),(aQ,.dat (.str [k0,k1,k2,k3,k4,k5]))] X' Y6 (bO Z6 (cT 62 e)) c1 c2 bad [k0,k1,k2,k3,k4] Y4):=
 z.useX (hs:=[.cll 822 1 (.dat (.int (Int.ofNat m))) (DH (FT r j w nm gap 3 late lW) X' Y (bO Z (cT 32 late)) c1 c2 (some (.dat bad))),.cal 787 1 [] (.dat (.lst (aB cZ))) [],.val 1307030061 (.dat (.int (Int.ofNat kk))),.sub 1307014062 (.dat (.str [k0,k1,k2,k3,k4,k5])),.val 1310011021 (.dat (.int 1)),.cal 794 1 [] (.dat (.lst (aB aM))) [],.val 1317077087 (.dat (.int (Int.ofNat pk))),.sub 1317063088 (.dat (.str w4)),.val 1317096106 (.dat (.int (Int.ofNat pj))),.sub 1317090107 (.dat (.str [q4])),.cll 888 3 (.dat (.str m4)) (KL r j w nm gap 3 late [(aI,.dat .non),(aL,.dat .non),(dT,.dat (.int (Int.ofNat m))),(aQ,.dat (.str [k0,k1,k2,k3,k4,k5]))] X' Y4 Z4 c1 c2 bad [k0,k1,k2,k3,k4]),.val 1319015026 (.dat (.int 0)),.cll 839 1 (.dat e3) (KJ r j w nm gap 3 late [(aI,.dat (.str m4)),(aL,.dat .non),(dT,.dat (.int (Int.ofNat m))),(aQ,.dat (.str [k0,k1,k2,k3,k4,k5]))] X' Y4 Z4 c1 c2 bad [k0,k1,k2,k3,k4]),.cal 794 1 [] (.dat (.lst (aB aM))) [],.val 1323075087 (.dat (.int (Int.ofNat sk))),.sub 1323061088 (.dat (.str w6)),.val 1323096107 (.dat (.int (Int.ofNat sj))),.sub 1323090108 (.dat (.str [q6])),.cll 888 3 (.dat (.str m6)) (uY r j w nm gap 3 late [(aI,.dat (.str m4)),(aL,.dat .non),(dT,.dat (.int (Int.ofNat m))),(aQ,.dat (.str [k0,k1,k2,k3,k4,k5]))] X' Y6 Z6 c1 c2 bad [k0,k1,k2,k3,k4] Y4),.cll 839 1 (.dat e) (uY r j w nm gap 3 late [(aI,.dat (.str m4)),(aL,.dat (.str m6)),(dT,.dat (.int (Int.ofNat m))),(aQ,.dat (.str [k0,k1,k2,k3,k4,k5]))] X' Y6 Z6 c1 c2 bad [k0,k1,k2,k3,k4] Y4)]) (g:=cg [(true,Nat.ble (Z6).length lim),(true,!Builtin.divisionGoesByPylong (Int.ofNat m) 64),(true,!Builtin.divisionGoesByPylong (Int.ofNat m) 128),(true,Nat.ble (Z4).length lim),(true,Nat.ble (Y4.length+1) lim),(true,!Builtin.divisionGoesByPylong (Int.ofNat m) 32),(true,!Builtin.divisionGoesByPylong (Int.ofNat m) 4),(true,!Builtin.divisionGoesByPylong (Int.ofNat m) 8),(true,Nat.ble (Y).length lim),(true,!Builtin.divisionGoesByPylong (Int.ofNat m) 2),(true,Nat.ble ((bO Z (cT 32 late))++gY [k0,k1,k2,k3,k4] bad).length lim),(true,Nat.ble ((bO Z (cT 32 late)).length+5) lim),(true,Nat.ble (Z).length lim)]) (aA z9 (aA d64 (aA d128 (aA z5 (aA y2 (aA d32 (aA d4 (aA d8 (aA y1 (aA d2 (aA z3 (aA z2 (aA z1 aH))))))))))))) (an n9 (an sf (an se (an sd (an sc (an sb (an sa (an n7 (an n6 (an pf (an pe (an pd (an pc (an pb (an pa (an n5 (an n4 (an n3 (an n2 (an n1 trivial)))))))))))))))))))) (by kernel_rfl)
theorem FH {m kk pk pj q4 k0 k1 k2 k3 k4 k5:Nat}{w4 m4:Nm}{Y4 Z4:List V}{sk sj q6:Nat}{w6 m6:Nm}{e3:D}{Y6 Z6:List V}(z1:Nat.ble (Z).length lim=true)(z2:Nat.ble ((bO Z (cT 32 late)).length+5) lim=true)(z3:Nat.ble ((bO Z (cT 32 late))++gY [k0,k1,k2,k3,k4] bad).length lim=true)(d2:(!Builtin.divisionGoesByPylong (Int.ofNat m) 2)=true)(y1:Nat.ble (Y).length lim=true)(d8:(!Builtin.divisionGoesByPylong (Int.ofNat m) 8)=true)(d4:(!Builtin.divisionGoesByPylong (Int.ofNat m) 4)=true)(d32:(!Builtin.divisionGoesByPylong (Int.ofNat m) 32)=true)(y2:Nat.ble (Y4).length lim=true)(d128:(!Builtin.divisionGoesByPylong (Int.ofNat m) 128)=true)(d64:(!Builtin.divisionGoesByPylong (Int.ofNat m) 64)=true)(z9:Nat.ble (Z6).length lim=true)
  (n1:CallOk z.c 1 822 [.ref 0] (DH (FT r j w nm gap 3 late lW) X Y (bO Z (cT 32 late)) c1 c2 (some (.dat bad))) (.dat (.int (Int.ofNat m))) (DH (FT r j w nm gap 3 late lW) X' Y (bO Z (cT 32 late)) c1 c2 (some (.dat bad))))
  (n2:CallOk z.c 1 787 [] [] (.dat (.lst (aB cZ))) [])
  (n3:(V.dat (.int (Int.fmod (Int.ofNat m) 2+0)):V)=.dat (.int (Int.ofNat kk)))
  (n4:(∀ hp,bZ z.c 7 hp getItem z.c.VT (.dat (.lst (aB cZ))) (.dat (.int (Int.ofNat kk))) (.dat (.str [k0,k1,k2,k3,k4,k5])) hp))
  (n5:(V.dat (.int (Int.fmod (Int.fdiv (Int.ofNat m) 2) 2)):V)=.dat (.int 1))
  (pa:CallOk z.c 1 794 [] [] (.dat (.lst (aB aM))) [])
  (pb:(V.dat (.int (Int.fmod (Int.fdiv (Int.ofNat m) 8) 4)):V)=.dat (.int (Int.ofNat pk)))
  (pc:(∀ hp,bZ z.c 7 hp getItem z.c.VT (.dat (.lst (aB aM))) (.dat (.int (Int.ofNat pk))) (.dat (.str w4)) hp))
  (pd:(V.dat (.int (Int.fmod (Int.fdiv (Int.ofNat m) 4) 2)):V)=.dat (.int (Int.ofNat pj)))
  (pe:(∀ hp,bZ z.c 7 hp getItem z.c.VT (.dat (.str [34,39])) (.dat (.int (Int.ofNat pj))) (.dat (.str [q4])) hp))
  (pf:CallOk z.c 3 888 [.ref 6,.ref 5,.dat (.str nm),.dat .non,.dat .non,.dat (.str w4),.dat (.str [q4])] (KL r j w nm gap 3 late [(aI,.dat .non),(aL,.dat .non),(dT,.dat (.int (Int.ofNat m))),(aQ,.dat (.str [k0,k1,k2,k3,k4,k5]))] X' (bO Y (.str eO)) (ZK Z late bad k0 k1 k2 k3 k4 k5) c1 c2 bad [k0,k1,k2,k3,k4]) (.dat (.str m4)) (KL r j w nm gap 3 late [(aI,.dat .non),(aL,.dat .non),(dT,.dat (.int (Int.ofNat m))),(aQ,.dat (.str [k0,k1,k2,k3,k4,k5]))] X' Y4 Z4 c1 c2 bad [k0,k1,k2,k3,k4]))
  (n6:(V.dat (.int (Int.fmod (Int.fdiv (Int.ofNat m) 32) 2)):V)=.dat (.int 1))
  (sa:CallOk z.c 1 794 [] [] (.dat (.lst (aB aM))) [])
  (sb:(V.dat (.int (Int.fmod (Int.fdiv (Int.ofNat m) 128) 4)):V)=.dat (.int (Int.ofNat sk)))
  (sc:(∀ hp,bZ z.c 7 hp getItem z.c.VT (.dat (.lst (aB aM))) (.dat (.int (Int.ofNat sk))) (.dat (.str w6)) hp))
  (sd:(V.dat (.int (Int.fmod (Int.fdiv (Int.ofNat m) 64) 2)):V)=.dat (.int (Int.ofNat sj)))
  (se:(∀ hp,bZ z.c 7 hp getItem z.c.VT (.dat (.str [34,39])) (.dat (.int (Int.ofNat sj))) (.dat (.str [q6])) hp))
  (sf:CallOk z.c 3 888 [.ref 6,.ref 5,.dat (.str nm),.dat (.str m4),.dat (.str []),.dat (.str w6),.dat (.str [q6])] (KL r j w nm gap 3 late [(aI,.dat (.str m4)),(aL,.dat .non),(dT,.dat (.int (Int.ofNat m))),(aQ,.dat (.str [k0,k1,k2,k3,k4,k5]))] X' (bO Y4 (.str eO)) Z4 c1 c2 bad [k0,k1,k2,k3,k4]) (.dat (.str m6)) (KL r j w nm gap 3 late [(aI,.dat (.str m4)),(aL,.dat .non),(dT,.dat (.int (Int.ofNat m))),(aQ,.dat (.str [k0,k1,k2,k3,k4,k5]))] X' Y6 Z6 c1 c2 bad [k0,k1,k2,k3,k4]))
  (n9:CallOk z.c 1 839 [.ref 5,.dat (Item.doc nm (some m4) (some m6) true).toD] (KL r j w nm gap 3 late [(aI,.dat (.str m4)),(aL,.dat (.str m6)),(dT,.dat (.int (Int.ofNat m))),(aQ,.dat (.str [k0,k1,k2,k3,k4,k5]))] X' Y6 Z6 c1 c2 bad [k0,k1,k2,k3,k4]) (.dat e) (KL r j w nm gap 3 late [(aI,.dat (.str m4)),(aL,.dat (.str m6)),(dT,.dat (.int (Int.ofNat m))),(aQ,.dat (.str [k0,k1,k2,k3,k4,k5]))] X' Y6 Z6 c1 c2 bad [k0,k1,k2,k3,k4])):
  RX z.c cO.names 7 FD (DT r j w nm gap 3 late X Y Z c1 c2 bad) (cO.body.drop 14) (.ret (.ref 6)) (KL r j w nm gap 3 late [(aI,.dat (.str m4)),(aL,.dat (.str m6)),(dT,.dat (.int (Int.ofNat m))),(aQ,.dat (.str [k0,k1,k2,k3,k4,k5]))] X' Y6 (bO Z6 (cT 62 e)) c1 c2 bad [k0,k1,k2,k3,k4]):=
 z.useX (hs:=[.cll 822 1 (.dat (.int (Int.ofNat m))) (DH (FT r j w nm gap 3 late lW) X' Y (bO Z (cT 32 late)) c1 c2 (some (.dat bad))),.cal 787 1 [] (.dat (.lst (aB cZ))) [],.val 1307030061 (.dat (.int (Int.ofNat kk))),.sub 1307014062 (.dat (.str [k0,k1,k2,k3,k4,k5])),.val 1310011021 (.dat (.int 1)),.cal 794 1 [] (.dat (.lst (aB aM))) [],.val 1317077087 (.dat (.int (Int.ofNat pk))),.sub 1317063088 (.dat (.str w4)),.val 1317096106 (.dat (.int (Int.ofNat pj))),.sub 1317090107 (.dat (.str [q4])),.cll 888 3 (.dat (.str m4)) (KL r j w nm gap 3 late [(aI,.dat .non),(aL,.dat .non),(dT,.dat (.int (Int.ofNat m))),(aQ,.dat (.str [k0,k1,k2,k3,k4,k5]))] X' Y4 Z4 c1 c2 bad [k0,k1,k2,k3,k4]),.val 1319015026 (.dat (.int 1)),.cal 794 1 [] (.dat (.lst (aB aM))) [],.val 1323075087 (.dat (.int (Int.ofNat sk))),.sub 1323061088 (.dat (.str w6)),.val 1323096107 (.dat (.int (Int.ofNat sj))),.sub 1323090108 (.dat (.str [q6])),.cll 888 3 (.dat (.str m6)) (KL r j w nm gap 3 late [(aI,.dat (.str m4)),(aL,.dat .non),(dT,.dat (.int (Int.ofNat m))),(aQ,.dat (.str [k0,k1,k2,k3,k4,k5]))] X' Y6 Z6 c1 c2 bad [k0,k1,k2,k3,k4]),.cll 839 1 (.dat e) (KL r j w nm gap 3 late [(aI,.dat (.str m4)),(aL,.dat (.str m6)),(dT,.dat (.int (Int.ofNat m))),(aQ,.dat (.str [k0,k1,k2,k3,k4,k5]))] X' Y6 Z6 c1 c2 bad [k0,k1,k2,k3,k4])]) (g:=cg [(true,Nat.ble (Z6).length lim),(true,!Builtin.divisionGoesByPylong (Int.ofNat m) 64),(true,!Builtin.divisionGoesByPylong (Int.ofNat m) 128),(true,Nat.ble (Y4).length lim),(true,!Builtin.divisionGoesByPylong (Int.ofNat m) 32),(true,!Builtin.divisionGoesByPylong (Int.ofNat m) 4),(true,!Builtin.divisionGoesByPylong (Int.ofNat m) 8),(true,Nat.ble (Y).length lim),(true,!Builtin.divisionGoesByPylong (Int.ofNat m) 2),(true,Nat.ble ((bO Z (cT 32 late))++gY [k0,k1,k2,k3,k4] bad).length lim),(true,Nat.ble ((bO Z (cT 32 late)).length+5) lim),(true,Nat.ble (Z).length lim)]) (aA z9 (aA d64 (aA d128 (aA y2 (aA d32 (aA d4 (aA d8 (aA y1 (aA d2 (aA z3 (aA z2 (aA z1 aH)))))))))))) (an n9 (an sf (an se (an sd (an sc (an sb (an sa (an n6 (an pf (an pe (an pd (an pc (an pb (an pa (an n5 (an n4 (an n3 (an n2 (an n1 trivial))))))))))))))))))) (by kernel_rfl)
end
end
section
noncomputable def dE (l:List Nm)(k:Nat):Nm:=l[k]?.getD []
theorem eI {l:List Nm}{k:Nat}(h:k<l.length):l[k]? =some (dE l k):=by
 unfold dE
 rw[List.getElem?_eq_getElem h];rfl
section
variable (z:c8){r j fm:Nat}{T:List D}{Q:List Nm}{P:List b9}{w nm gap:Nm}{c1 c2 late bad:D}
theorem Qw:∀ w∈dB,∃ c0 c1 c2 c3 c4 c5 c6:Nat,w=[c0,c1,c2,c3,c4,c5,c6]:=fun w h=>by
 unfold dB at h
 simp only[List.mem_cons,List.not_mem_nil,or_false]at h
 rcases h with rfl|rfl|rfl <;>exact⟨_,_,_,_,_,_,_,rfl⟩
theorem Qx (hr:r<5041):RX z.c cO.names 7 FD (D0 r (dl T)) (cO.body.take 7) .next (DH [(uG,.dat (.int (Int.ofNat r))),(dP,.ref 0),(fJ,.ref 5),(aV,.ref 6),(kU,.dat (.str (dE lV (r/3%3))))] (dl T) (dl (aB (j0 (dE lV (r/3%3))))) (dl (aF (lN (dE dB (r%3)) (dE lV (r/3%3))))) (.str (dE dB (r%3))) (aX eH) none):=by
 have l3:r%3<3:=Nat.mod_lt _ (by decide)
 have g3:r/3%3<3:=Nat.mod_lt _ (by decide)
 have hw:=eI (l:=dB) l3
 have hd:(!Builtin.divisionGoesByPylong (Int.ofNat r) 3)=true:=by rw[show Builtin.divisionGoesByPylong (Int.ofNat r) 3=false from qK r hr 3 (by decide)];rfl
 have h2:(V.dat (.int (Int.fmod (Int.fdiv (Int.ofNat r) 3) 3)):V)=.dat (.int (Int.ofNat (r/3%3))):=by rw[show Int.fdiv (Int.ofNat r) 3=_ from jG r 3];exact eD _ 3
 have hO:bZ z.c 7 (D1 r (dl T)) getItem z.c.VT (.ref 6) (.dat (.int (Int.fmod (Int.ofNat r) 3))) (.dat (.str (dE dB (r%3)))) (D1 r (dl T)):=by
  have e:=eD r 3
  rw[show(V.dat (.int (Int.fmod (Int.ofNat r) 3)):V)=_ from e]
  refine nZ (xs:=dl (aB dB)) rfl ?_ (fI (m:=3) (Nat.le_of_lt l3) rfl)
  unfold rE
  have e:nH (Int.ofNat (r%3)) (dl (aB dB)).length=some (r%3):=by
   show(match Nat.blt (r%3) 3 with|true=>some (r%3)|false=>none)=_
   rw[show Nat.blt (r%3) 3=true from Nat.ble_eq_true_of_le l3]
  rw[e,Option.bind_some,sH,aB,List.getElem?_map,hw];rfl
 refine mT (hp1:=D2 r (dl T) (dE dB (r%3)) (dE lV (r/3%3))) ?_ TS
 have hm:=List.mem_of_getElem? hw
 generalize dE dB (r%3)=word at *
 obtain⟨c0,c1,c2,c3,c4,c5,c6,rfl⟩:=Qw word hm
 have hq:∀ k,k<7→CallOk z.c 2 860 [.dat (.str ([60,33]++(cut [c0,c1,c2,c3,c4,c5,c6] none (some (Int.ofNat k)))))] [] (.dat (aX (bI ([60,33]++(cut [c0,c1,c2,c3,c4,c5,c6] none (some (Int.ofNat k))))))) []:=fun k _=>KF z (by
  rw[List.length_append]
  exact Nat.le_trans (Nat.add_le_add_left (hI _ _ _) 2) (by show 2+7≤1000;decide))
 have hE:CallOk z.c 1 839 [.ref 0,.dat (Item.doc [] none none false).toD] [.lst [.dat (.str cS)]] (.dat (aX eH)) [.lst [.dat (.str cS)]]:=iV z (T:=[cS]) (Nat.le_of_ble_eq_true rfl)
 generalize r/3%3=b at *
 match b,g3,h2 with
 |0,_,h2=>exact Mm z hO h2 hd hq hE
 |1,_,h2=>exact Mn z hO h2 hd hq hE
 |2,_,h2=>exact Mo z hO h2 hd hq hE
theorem FI {fr:List (Nm×V)}{c1 c2 it:D}{cb:Option V}(h:Q.length≤1000):CallOk z.c 1 839 [.ref 8,.dat it] (BD fr (dl T) (dl (aB Q)) (dl (aF P)) c1 c2 cb) (.dat (.lst (b8 (Q++[aY]) it))) (BD fr (dl T) (dl (aB Q)) (dl (aF P)) c1 c2 cb):=by
 have e:bO (dl (aB Q)) (.str aY)=dl (aB (Q++[aY])):=(cQ Q aY).symm
 unfold BD J1
 rw[e]
 exact eS (c:=z.c) (hp:=DH fr (dl T) (dl (aB Q)) (dl (aF P)) c1 c2 cb++[.lst [.dat (.str aY)],.lst (dl (aB (Q++[aY])))]) (l:=8) (d:=.lst (b8 (Q++[aY]) it)) (ds:=[it]) (X:=aB (Q++[aY])) (Y:=aB (Q++[aY])) rfl (iV z (by rw[List.length_append];exact Nat.le_trans (Nat.succ_le_succ h) (by decide)))
theorem Ao {fr:List (Nm×V)}{c1 c2 it:D}{cb:Option V}(h:Q.length≤1000):CallOk z.c 1 839 [.ref 10,.dat it] (BE fr (dl T) (dl (aB Q)) (dl (aF P)) c1 c2 cb) (.dat (.lst (b8 (Q++[g6]) it))) (BE fr (dl T) (dl (aB Q)) (dl (aF P)) c1 c2 cb):=by
 have e:bO (dl (aB Q)) (.str g6)=dl (aB (Q++[g6])):=(cQ Q g6).symm
 unfold BE
 show CallOk _ _ _ _ (BD fr (dl T) (dl (aB Q)) (dl (aF P)) c1 c2 cb++[.lst [.dat (.str g6)],.lst (bO (dl (aB Q)) (.str g6))]) _ (BD fr (dl T) (dl (aB Q)) (dl (aF P)) c1 c2 cb++[.lst [.dat (.str g6)],.lst (bO (dl (aB Q)) (.str g6))])
 rw[e]
 exact eS (c:=z.c) (hp:=BD fr (dl T) (dl (aB Q)) (dl (aF P)) c1 c2 cb++[.lst [.dat (.str g6)],.lst (dl (aB (Q++[g6])))]) (l:=10) (d:=.lst (b8 (Q++[g6]) it)) (ds:=[it]) (X:=aB (Q++[g6])) (Y:=aB (Q++[g6])) rfl (iV z (by rw[List.length_append];exact Nat.le_trans (Nat.succ_le_succ h) (by decide)))
theorem Qy:Gc 7 (BE (FT r j w nm gap fm late lW) (dl T) (dl (aB Q)) (dl (aF P)) c1 c2 (some (.dat bad))) (DT r j w nm gap fm late (dl T) (dl (aB Q)) (dl (aF P)) c1 c2 bad):=by
 have a0:=cP (cA s7) T
 have b0:=cP (cA s7) (aB Q)
 have d0:=cP (cA s7) (aF P)
 have a1:=cF (kr s7) T
 have b1:=cF (kr s7) (aB Q)
 have d1:=cF (kr s7) (aF P)
 generalize dl T=X at *
 generalize dl (aB Q)=Y at *
 generalize dl (aF P)=Z at *
 have e1:cL s7 (BE (FT r j w nm gap fm late lW) X Y Z c1 c2 (some (.dat bad)))=(X.all (V.cl (cA s7))&&(Y.all (V.cl (cA s7))&&(Z.all (V.cl (cA s7))&&true))):=by kernel_rfl
 have e2:kept s7 (BE (FT r j w nm gap fm late lW) X Y Z c1 c2 (some (.dat bad)))=DT r j w nm gap fm late (X.map (V.ren (kr s7))) (Y.map (V.ren (kr s7))) (Z.map (V.ren (kr s7))) c1 c2 bad:=by kernel_rfl
 exact mR (τ:=[]) (by kernel_rfl) (e1.trans (by rw[a0,b0,d0];rfl)) (e2.trans (by rw[a1,b1,d1]))
theorem JA:CallOk z.c 1 780 [] [] (.dat (.lst (aB fV))) []:=z.use (hs:=[]) (o:=.auto) (g:=true) rfl trivial (by kernel_rfl)
theorem sO:∀ w∈fV,0<w.length∧w.length≤100∧w∈Ip∧∀ k<w.length,cut w none (some (Int.ofNat (k+1)))∈Ip:=by decide+kernel
theorem Mw (hr:r<5041)(hP:P.length≤500)(hQ:Q.length≤500)(hfm:fm=r/36%6)(hw:w=dE fV (r/9%4)):
  ∃ j,RX z.c cO.names 7 FD (DH [(uG,.dat (.int (Int.ofNat r))),(dP,.ref 0),(fJ,.ref 5),(aV,.ref 6),(kU,.dat (.str gap))] (dl T) (dl (aB Q)) (dl (aF P)) c1 c2 none) ((cO.body.drop 7).take 7) .next
   (DT r j w (bK w) gap fm (aX (gQ (cD w Q w.length) (bK w))) (dl T) (dl (aB (cD w Q w.length))) (dl (aF (P++jW w Q w.length))) c1 c2 (aX (qQ (cD w Q w.length) (bK w)))):=by
 have l4:r/9%4<4:=Nat.mod_lt _ (by decide)
 have hk:fV[r/9%4]? =some w:=hw▸eI (l:=fV) l4
 obtain⟨p1,p2,p3,p4⟩:=sO w (List.mem_of_getElem? hk)
 have hd:(!Builtin.divisionGoesByPylong (Int.ofNat r) 9)=true:=by rw[show Builtin.divisionGoesByPylong (Int.ofNat r) 9=false from qK r hr 9 (by decide)];rfl
 have hd2:(!Builtin.divisionGoesByPylong (Int.ofNat r) 36)=true:=by rw[show Builtin.divisionGoesByPylong (Int.ofNat r) 36=false from qK r hr 36 (by decide)];rfl
 have h2:(V.dat (.int (Int.fmod (Int.fdiv (Int.ofNat r) 9) 4)):V)=.dat (.int (Int.ofNat (r/9%4))):=by rw[show Int.fdiv (Int.ofNat r) 9=_ from jG r 9];exact eD _ 4
 have h6:(V.dat (.int (Int.fmod (Int.fdiv (Int.ofNat r) 36) 6)):V)=.dat (.int (Int.ofNat fm)):=by rw[hfm,show Int.fdiv (Int.ofNat r) 36=_ from jG r 36];exact eD _ 6
 obtain⟨j,hf⟩:=Iq z (r:=r) (X:=T) (c1:=c1) (c2:=c2) (gap:=gap) (P:=P) (T:=Q) p2 p1 (fun k lt=>zS z (p4 k lt)) hP hQ
 have l1:=jH w Q w.length
 have hT:(cD w Q w.length).length≤1000:=by omega
 have hl:Nat.ble ((dl (aB (cD w Q w.length))).length+1) lim=true:=fI (m:=1001) (by rw[cY];omega) rfl
 refine⟨j,mT ?_ Qy⟩
 have q1:CallOk z.c 1 839 [.ref 8,.dat (Item.doc (bK w) none none false).toD] (BD (FB r j w (bK w) gap fm) (dl T) (dl (aB (cD w Q w.length))) (dl (aF (P++jW w Q w.length))) c1 c2 none) (.dat (aX (gQ (cD w Q w.length) (bK w)))) (BD (FB r j w (bK w) gap fm) (dl T) (dl (aB (cD w Q w.length))) (dl (aF (P++jW w Q w.length))) c1 c2 none):=by
  unfold gQ aX;rw[← fH];exact FI z hT
 have q2:CallOk z.c 1 839 [.ref 10,.dat (Item.doc (bK w) none none false).toD] (BE (FT r j w (bK w) gap fm (aX (gQ (cD w Q w.length) (bK w))) []) (dl T) (dl (aB (cD w Q w.length))) (dl (aF (P++jW w Q w.length))) c1 c2 none) (.dat (aX (qQ (cD w Q w.length) (bK w)))) (BE (FT r j w (bK w) gap fm (aX (gQ (cD w Q w.length) (bK w))) []) (dl T) (dl (aB (cD w Q w.length))) (dl (aF (P++jW w Q w.length))) c1 c2 none):=by
  unfold qQ aX;rw[← fH];exact Ao z hT
 exact Qv z (JA z) h2 (fun hp=>iD z (by rw[aB,List.getElem?_map,hk];rfl) (Nat.lt_trans l4 (by decide)) hp) hf (zS z p3) h6 q1 q2 hl hd hd2
end
end
section
noncomputable def fY (T:List Nm)(nm:Nm)(f l:Option Nm):List Item:=bT T (.doc nm f l true)
inductive TailR (z:c8) (hp:List O) (out:List b9) (T':List Nat):Prop
 |mk (hp':List O) (h:RX z.c cO.names 7 FD hp (cO.body.drop 14) (.ret (.ref 6)) (.lst (dl (bL T'))::hp')) (f:g9 6 (.lst (dl (bL T'))::hp')=some (.lst (aF out)))
theorem cB (P:List b9)(c:Nat)(l:List Item):bO (dl (aF P)) (cT c (aX l))=dl (aF (P++[(c,l)])):=(eC P (c,l)).symm
theorem cJ {P:List b9}(h:P.length≤10000):Nat.ble (dl (aF P)).length lim=true:=fI (m:=10000) (by rw[cG];exact h) rfl
section
variable (z:c8){r j fm:Nat}{T:List Nat}{Q:List Nm}{P:List b9}{w nm gap:Nm}{c1 c2 late bad:D}{la ba:List Item}
theorem gR {fr:List (Nm×V)}{cb:Option V}{X Z:List V}{J:List O}{f l:Option Nm}(h:Q.length≤10000):CallOk z.c 1 839 [.ref 5,.dat (Item.doc nm f l true).toD] (DH fr X (dl (aB Q)) Z c1 c2 cb++J) (.dat (aX (fY Q nm f l))) (DH fr X (dl (aB Q)) Z c1 c2 cb++J):=by
 unfold fY aX
 rw[← fH]
 exact eS (c:=z.c) (hp:=DH fr X (dl (aB Q)) Z c1 c2 cb++J) (l:=5) (ds:=[(Item.doc nm f l true).toD]) (X:=aB Q) (Y:=aB Q) rfl (iV z h)
theorem sP {fr:List (Nm×V)}{cb:Option V}{X Z:List V}{f l:Option Nm}(h:Q.length≤10000):CallOk z.c 1 839 [.ref 5,.dat (Item.doc nm f l true).toD] (DH fr X (dl (aB Q)) Z c1 c2 cb) (.dat (aX (fY Q nm f l))) (DH fr X (dl (aB Q)) Z c1 c2 cb):=gR z (J:=[]) h
theorem Mx (hP:P.length≤9000)(hQ:Q.length≤9000):TailR z (DT r j w nm gap 0 (aX la) (dl (bL T)) (dl (aB Q)) (dl (aF P)) c1 c2 (aX ba)) (P++[(62,fY Q nm none none)]) T:=by
 refine .mk _ (Mt z (cJ (Nat.le_trans hP (by decide))) (sP z (Nat.le_trans hQ (by decide)))) ?_
 rw[cB]
 exact dX rfl
theorem My (hP:P.length≤9000)(hQ:Q.length≤9000):TailR z (DT r j w nm gap 1 (aX la) (dl (bL T)) (dl (aB Q)) (dl (aF P)) c1 c2 (aX ba)) (P++[(32,la)]++[(62,fY Q nm none none)]) T:=by
 refine .mk _ (Mu z (cJ (Nat.le_trans hP (by decide))) (by rw[cB];exact cJ (by rw[List.length_append];exact Nat.le_trans (Nat.succ_le_succ hP) (by decide))) (sP z (Nat.le_trans hQ (by decide)))) ?_
 rw[cB,cB]
 exact dX rfl
noncomputable def uK (b:Nm)(ba:List Item):List b9:=b.map fun c=>(c,ba)
theorem wH (b:Nm)(ba:List Item):gY b (aX ba)=dl (aF (uK b ba)):=by
 induction b with
 |nil=>rfl
 |cons c b ih=>exact congrArg (_::·) ih
theorem wI (a b:List b9):dl (aF (a++b))=dl (aF a)++dl (aF b):=by unfold aF;rw[List.map_append];exact kS _ _
theorem pE {hp:List O}(hT:T.length≤1000)(hx:hp[0]? =some (.lst (dl (bL T)))):CallOk z.c 1 822 [.ref 0] hp (.dat (.int (Int.ofNat (T.headD 0)))) (hp.set 0 (.lst (dl (bL T.tail)))):=eS (c:=z.c) (l:=0) (ds:=[]) hx (x0 z hT)
theorem pF:CallOk z.c 1 801 [] [] (.dat (.lst (aB j8))) []:=z.use (hs:=[]) (o:=.auto) (g:=true) rfl trivial (by kernel_rfl)
theorem Mz (hP:P.length≤9000)(hT:T.length≤1000):TailR z (DT r j w nm gap 5 (aX la) (dl (bL T)) (dl (aB Q)) (dl (aF P)) c1 c2 (aX ba)) (P++[(32,la)]++uK (dE j8 (T.headD 0%4)++[62]) ba) T.tail:=by
 have h3:=eD (T.headD 0) 4
 have l4:T.headD 0%4<4:=Nat.mod_lt _ (by decide)
 have hz:=cJ (P:=P) (Nat.le_trans hP (by decide))
 have hz1:∀ n,n≤10→Nat.ble ((bO (dl (aF P)) (cT 32 (aX la))).length+n) lim=true:=fun n hn=>fI (m:=9011) (by rw[cB,cG,List.length_append];show P.length+1+n≤_;omega) rfl
 have h2:=pE z (hp:=DT r j w nm gap 5 (aX la) (dl (bL T)) (dl (aB Q)) (bO (dl (aF P)) (cT 32 (aX la))) c1 c2 (aX ba)) hT rfl
 have iJ:∀ b:Nm,g9 6 (qR r j w nm gap (aX la) (dl (bL T.tail)) (dl (aB Q)) (dl (aF P)) c1 c2 (aX ba) b)=some (.lst (aF (P++[(32,la)]++uK (b++[62]) ba))):=fun b=>by
  refine dX ?_
  rw[wI,← wH,← cB];rfl
 generalize T.headD 0=m at *
 generalize m%4=k at *
 match k,l4,h3 with
 |0,_,h3=>exact .mk _ (Ir z hz (hz1 4 (by decide)) (pF z) h2 h3) (iJ _)
 |1,_,h3=>exact .mk _ (It z hz (hz1 4 (by decide)) (pF z) h2 h3) (iJ _)
 |2,_,h3=>exact .mk _ (Iu z hz (hz1 7 (by decide)) (pF z) h2 h3) (iJ _)
 |3,_,h3=>exact .mk _ (Iv z hz (hz1 3 (by decide)) (pF z) h2 h3) (iJ _)
end
end
section
noncomputable def qS (nm:Nm)(f l:Option Nm)(w:Nm)(q:Nat)(Q:List Nm):List b9:=jV nm f l w ([q]++w++[q]) Q (w.length+2)
noncomputable def m5 (w:Nm)(q:Nat)(Q:List Nm):List Nm:=cD ([q]++w++[q]) Q (w.length+2)
theorem gE {nm:Nm}{f l:Option Nm}{w:Nm}{q:Nat}{Q:List Nm}(h:w.length≤100):(qS nm f l w q Q).length≤102:=Nat.le_trans (qO _ _ _ _ _ _ _) (Nat.add_le_add_right h 2)
theorem gG {w:Nm}{q:Nat}{Q:List Nm}(h:w.length≤100):(m5 w q Q).length≤Q.length+102:=Nat.le_trans (jH _ _ _) (Nat.add_le_add_left (Nat.add_le_add_right h 2) _)
noncomputable def NA (sp:Nat)(la:List Item)(P:List b9):List b9:=match sp with
 |0=>P++[(32,la)]
 |_=>P
noncomputable def m7 (sp:Nat)(Q:List Nm):List Nm:=match sp with
 |0=>Q
 |_=>Q++[eO]
noncomputable def uZ (key:Nm)(la ba:List Item)(P:List b9):List b9:=P++[(32,la)]++uK (cut key none (some 5)) ba++(cut key (some 5) none).map fun c=>(c,la)
section
variable (z:c8){r j fm:Nat}{T:List Nat}{Q:List Nm}{P:List b9}{w nm gap:Nm}{c1 c2:D}{la ba:List Item}{f l:Option Nm}{q:Nat}
theorem iX {hp:List O}(hw:w.length≤100)(hP:P.length≤500)(hQ:Q.length≤500)(h6:hp[6]? =some (.lst (dl (aF P))))(h5:hp[5]? =some (.lst (dl (aB Q)))):
  CallOk z.c 3 888 [.ref 6,.ref 5,.dat (.str nm),.dat (j9 f),.dat (j9 l),.dat (.str w),.dat (.str [q])] hp (.dat (.str (aE w))) ((hp.set 6 (.lst (dl (aF (P++qS nm f l w q Q))))).set 5 (.lst (dl (aB (m5 w q Q))))):=
 EW (c:=z.c) (l:=6) (l2:=5) (ds:=[.str nm,j9 f,j9 l,.str w,.str [q]]) (X:=aF P) (X2:=aB Q) (Y:=aF (P++qS nm f l w q Q)) (Y2:=aB (m5 w q Q)) (by decide) h6 h5 (Ey z hw hP hQ)
theorem kW:CallOk z.c 1 787 [] [] (.dat (.lst (aB cZ))) []:=z.use (hs:=[]) (o:=.auto) (g:=true) rfl trivial (by kernel_rfl)
theorem g0:CallOk z.c 1 794 [] [] (.dat (.lst (aB aM))) []:=z.use (hs:=[]) (o:=.auto) (g:=true) rfl trivial (by kernel_rfl)
theorem TU:∀ w∈cZ,∃ c0 c1 c2 c3 c4 c5:Nat,w=[c0,c1,c2,c3,c4,c5]:=fun w h=>by
 unfold cZ at h
 simp only[List.mem_cons,List.not_mem_nil,or_false]at h
 rcases h with rfl|rfl|rfl|rfl <;>exact⟨_,_,_,_,_,_,rfl⟩
theorem lF:∀ w∈aM,w.length≤100:=by decide+kernel
noncomputable def gD (k:Nat):Nat:=match k with
 |0=>34
 |_=>39
theorem oH {k:Nat}(h:k<2)(hp:List O):bZ z.c 7 hp getItem z.c.VT (.dat (.str [34,39])) (.dat (.int (Int.ofNat k))) (.dat (.str [gD k])) hp:=match k,h with
 |0,_=>jU rfl rfl
 |1,_=>jU rfl rfl
theorem uL {k0 k1 k2 k3 k4 k5:Nat}:ZK (dl (aF P)) (aX la) (aX ba) k0 k1 k2 k3 k4 k5=dl (aF (uZ [k0,k1,k2,k3,k4,k5] la ba P)):=by
 unfold ZK uZ
 rw[cB,wH,← wI,cB];rfl
theorem eJ {m a b:Nat}(hm:m<5041)(ha:a∈[2,3,4,8,9,10,32,36,64,128]):(V.dat (.int (Int.fmod (Int.fdiv (Int.ofNat m) (Int.ofNat a)) (Int.ofNat b))):V)=.dat (.int (Int.ofNat (m/a%b)))∧(!Builtin.divisionGoesByPylong (Int.ofNat m) (Int.ofNat a))=true:=by
 rw[jG,show Builtin.divisionGoesByPylong (Int.ofNat m) (Int.ofNat a)=false from qK m hm a ha]
 exact⟨eD _ b,rfl⟩
end
end
section
section
variable (z:c8){r j fm:Nat}{T:List Nat}{Q:List Nm}{P:List b9}{w nm gap:Nm}{c1 c2:D}{la ba:List Item}{f l:Option Nm}{q:Nat}
noncomputable def kX (fm m:Nat):Nat:=m%2+(match fm with|4=>2|_=>0)
noncomputable def OF (fm m:Nat)(nm:Nm)(la ba:List Item)(P:List b9)(Q:List Nm):List b9:=NA (m/2%2) la (uZ (dE cZ (kX fm m)) la ba P)++qS nm none (match fm with|4=>some [] |_=>none) (dE aM (m/8%4)) (gD (m/4%2)) (m7 (m/2%2) Q)
noncomputable def OG (m:Nat)(Q:List Nm):List Nm:=m5 (dE aM (m/8%4)) (gD (m/4%2)) (m7 (m/2%2) Q)
theorem NB {m:Nat}(hm:m<5041)(e:T.headD 0=m)(hP:P.length≤300)(hQ:Q.length≤300)(hT:T.length≤1000):TailR z (DT r j w nm gap 2 (aX la) (dl (bL T)) (dl (aB Q)) (dl (aF P)) c1 c2 (aX ba)) (OF 2 m nm la ba P Q++[(62,fY (OG m Q) nm (some (aE (dE aM (m/8%4)))) none)]) T.tail:=by
 have l2:m%2<2:=Nat.mod_lt _ (by decide)
 have lk:kX 2 m<4:=by show m%2+0<4;omega
 have hk:=eI (l:=cZ) lk
 have l8:m/8%4<4:=Nat.mod_lt _ (by decide)
 have h8:=eI (l:=aM) l8
 have hw:=lF _ (List.mem_of_getElem? h8)
 have l4:m/4%2<2:=Nat.mod_lt _ (by decide)
 have l22:m/2%2<2:=Nat.mod_lt _ (by decide)
 have p2:=eJ (m:=m) (a:=2) (b:=2) hm (by decide)
 have p8:=eJ (m:=m) (a:=8) (b:=4) hm (by decide)
 have p4:=eJ (m:=m) (a:=4) (b:=2) hm (by decide)
 have hK:(V.dat (.int (Int.fmod (Int.ofNat m) 2+0)):V)=.dat (.int (Int.ofNat (kX 2 m))):=by
  have q:=eD m 2
  have q:Int.fmod (Int.ofNat m) 2=Int.ofNat (m%2):=by injection q with q;injection q
  rw[q];rfl
 have n4:∀ hp,bZ z.c 7 hp getItem z.c.VT (.dat (.lst (aB cZ))) (.dat (.int (Int.ofNat (kX 2 m)))) (.dat (.str (dE cZ (kX 2 m)))) hp:=fun hp=>iD z (by rw[aB,List.getElem?_map,hk];rfl) (Nat.lt_trans lk (by decide)) hp
 have pc:∀ hp,bZ z.c 7 hp getItem z.c.VT (.dat (.lst (aB aM))) (.dat (.int (Int.ofNat (m/8%4)))) (.dat (.str (dE aM (m/8%4)))) hp:=fun hp=>iD z (by rw[aB,List.getElem?_map,h8];rfl) (Nat.lt_trans l8 (by decide)) hp
 have z1:=cJ (P:=P) (Nat.le_trans hP (by decide))
 have z2:Nat.ble ((bO (dl (aF P)) (cT 32 (aX la))).length+5) lim=true:=fI (m:=400) (by rw[cB,cG,List.length_append];show P.length+1+5≤_;omega) rfl
 have hk6:=TU _ (List.mem_of_getElem? hk)
 unfold OF OG
 generalize dE cZ (kX 2 m)=key at *
 generalize dE aM (m/8%4)=w4 at *
 obtain⟨k0,k1,k2,k3,k4,k5,rfl⟩:=hk6
 have z3:Nat.ble (bO (dl (aF P)) (cT 32 (aX la))++gY [k0,k1,k2,k3,k4] (aX ba)).length lim=true:=fI (m:=400) (by rw[cB,List.length_append,cG,List.length_append];show P.length+1+5≤_;omega) rfl
 have lE:(uZ [k0,k1,k2,k3,k4,k5] la ba P).length≤307:=by unfold uZ;rw[List.length_append,List.length_append,List.length_append];show P.length+1+5+1≤_;omega
 have n1:=pE z (hp:=DH (FT r j w nm gap 2 (aX la) lW) (dl (bL T)) (dl (aB Q)) (bO (dl (aF P)) (cT 32 (aX la))) c1 c2 (some (.dat (aX ba)))) hT rfl
 rw[e]at n1
 have hZ:=uL (P:=P) (la:=la) (ba:=ba) (k0:=k0) (k1:=k1) (k2:=k2) (k3:=k3) (k4:=k4) (k5:=k5)
 have z4:Nat.ble (ZK (dl (aF P)) (aX la) (aX ba) k0 k1 k2 k3 k4 k5).length lim=true:=by rw[hZ];exact cJ (Nat.le_trans lE (by decide))
 have y1:Nat.ble (dl (aB Q)).length lim=true:=fI (m:=300) (by rw[cY];exact hQ) rfl
 have hy:bO (dl (aB Q)) (.str eO)=dl (aB (Q++[eO])):=(cQ Q eO).symm
 generalize uZ [k0,k1,k2,k3,k4,k5] la ba P=PK at *
 generalize m/2%2=s at *
 match s,l22,p2.1 with
 |0,_,n5=>
  have lE3:(PK++[(32,la)]).length≤308:=by rw[List.length_append];exact Nat.succ_le_succ lE
  have pf:=iX z (nm:=nm) (f:=none) (l:=none) (q:=gD (m/4%2)) (hp:=KL r j w nm gap 2 (aX la) [(aI,.dat .non),(aL,.dat .non),(dT,.dat (.int (Int.ofNat m))),(aQ,.dat (.str [k0,k1,k2,k3,k4,k5]))] (dl (bL T.tail)) (dl (aB Q)) (dl (aF (PK++[(32,la)]))) c1 c2 (aX ba) [k0,k1,k2,k3,k4]) hw (Nat.le_trans lE3 (by decide)) (Nat.le_trans hQ (by decide)) rfl rfl
  rw[← cB,← hZ]at pf
  have z9:Nat.ble (dl (aF (PK++[(32,la)]++qS nm none none w4 (gD (m/4%2)) Q))).length lim=true:=cJ (by rw[List.length_append];exact Nat.le_trans (Nat.add_le_add lE3 (gE hw)) (by decide))
  refine .mk _ (Iw z z1 z2 z3 p2.2 z4 p8.2 p4.2 z9 n1 (kW z) hK n4 n5 (g0 z) p8.1 pc p4.1 (oH z l4) pf (gR z (Nat.le_trans (gG hw) (by omega)))) ?_
  rw[cB]
  exact dX rfl
 |1,_,n5=>
  have lQ3:(Q++[eO]).length≤301:=by rw[List.length_append];exact Nat.succ_le_succ hQ
  have pf:=iX z (nm:=nm) (f:=none) (l:=none) (q:=gD (m/4%2)) (hp:=KL r j w nm gap 2 (aX la) [(aI,.dat .non),(aL,.dat .non),(dT,.dat (.int (Int.ofNat m))),(aQ,.dat (.str [k0,k1,k2,k3,k4,k5]))] (dl (bL T.tail)) (dl (aB (Q++[eO]))) (dl (aF PK)) c1 c2 (aX ba) [k0,k1,k2,k3,k4]) hw (Nat.le_trans lE (by decide)) (Nat.le_trans lQ3 (by decide)) rfl rfl
  rw[← hy,← hZ]at pf
  have z9:Nat.ble (dl (aF (PK++qS nm none none w4 (gD (m/4%2)) (Q++[eO])))).length lim=true:=cJ (by rw[List.length_append];exact Nat.le_trans (Nat.add_le_add lE (gE hw)) (by decide))
  refine .mk _ (Ix z z1 z2 z3 p2.2 y1 p8.2 p4.2 z9 n1 (kW z) hK n4 n5 (g0 z) p8.1 pc p4.1 (oH z l4) pf (gR z (Nat.le_trans (gG hw) (by omega)))) ?_
  rw[cB]
  exact dX rfl
theorem NC {m:Nat}(hm:m<5041)(e:T.headD 0=m)(hP:P.length≤300)(hQ:Q.length≤300)(hT:T.length≤1000):TailR z (DT r j w nm gap 4 (aX la) (dl (bL T)) (dl (aB Q)) (dl (aF P)) c1 c2 (aX ba)) (OF 4 m nm la ba P Q++[(62,fY (OG m Q) nm none (some (aE (dE aM (m/8%4)))))]) T.tail:=by
 have l2:m%2<2:=Nat.mod_lt _ (by decide)
 have lk:kX 4 m<4:=by show m%2+2<4;omega
 have hk:=eI (l:=cZ) lk
 have l8:m/8%4<4:=Nat.mod_lt _ (by decide)
 have h8:=eI (l:=aM) l8
 have hw:=lF _ (List.mem_of_getElem? h8)
 have l4:m/4%2<2:=Nat.mod_lt _ (by decide)
 have l22:m/2%2<2:=Nat.mod_lt _ (by decide)
 have p2:=eJ (m:=m) (a:=2) (b:=2) hm (by decide)
 have p8:=eJ (m:=m) (a:=8) (b:=4) hm (by decide)
 have p4:=eJ (m:=m) (a:=4) (b:=2) hm (by decide)
 have hK:(V.dat (.int (Int.fmod (Int.ofNat m) 2+2)):V)=.dat (.int (Int.ofNat (kX 4 m))):=by
  have q:=eD m 2
  have q:Int.fmod (Int.ofNat m) 2=Int.ofNat (m%2):=by injection q with q;injection q
  rw[q];rfl
 have n4:∀ hp,bZ z.c 7 hp getItem z.c.VT (.dat (.lst (aB cZ))) (.dat (.int (Int.ofNat (kX 4 m)))) (.dat (.str (dE cZ (kX 4 m)))) hp:=fun hp=>iD z (by rw[aB,List.getElem?_map,hk];rfl) (Nat.lt_trans lk (by decide)) hp
 have pc:∀ hp,bZ z.c 7 hp getItem z.c.VT (.dat (.lst (aB aM))) (.dat (.int (Int.ofNat (m/8%4)))) (.dat (.str (dE aM (m/8%4)))) hp:=fun hp=>iD z (by rw[aB,List.getElem?_map,h8];rfl) (Nat.lt_trans l8 (by decide)) hp
 have z1:=cJ (P:=P) (Nat.le_trans hP (by decide))
 have z2:Nat.ble ((bO (dl (aF P)) (cT 32 (aX la))).length+5) lim=true:=fI (m:=400) (by rw[cB,cG,List.length_append];show P.length+1+5≤_;omega) rfl
 have hk6:=TU _ (List.mem_of_getElem? hk)
 unfold OF OG
 generalize dE cZ (kX 4 m)=key at *
 generalize dE aM (m/8%4)=w4 at *
 obtain⟨k0,k1,k2,k3,k4,k5,rfl⟩:=hk6
 have z3:Nat.ble (bO (dl (aF P)) (cT 32 (aX la))++gY [k0,k1,k2,k3,k4] (aX ba)).length lim=true:=fI (m:=400) (by rw[cB,List.length_append,cG,List.length_append];show P.length+1+5≤_;omega) rfl
 have lE:(uZ [k0,k1,k2,k3,k4,k5] la ba P).length≤307:=by unfold uZ;rw[List.length_append,List.length_append,List.length_append];show P.length+1+5+1≤_;omega
 have n1:=pE z (hp:=DH (FT r j w nm gap 4 (aX la) lW) (dl (bL T)) (dl (aB Q)) (bO (dl (aF P)) (cT 32 (aX la))) c1 c2 (some (.dat (aX ba)))) hT rfl
 rw[e]at n1
 have hZ:=uL (P:=P) (la:=la) (ba:=ba) (k0:=k0) (k1:=k1) (k2:=k2) (k3:=k3) (k4:=k4) (k5:=k5)
 have z4:Nat.ble (ZK (dl (aF P)) (aX la) (aX ba) k0 k1 k2 k3 k4 k5).length lim=true:=by rw[hZ];exact cJ (Nat.le_trans lE (by decide))
 have y1:Nat.ble (dl (aB Q)).length lim=true:=fI (m:=300) (by rw[cY];exact hQ) rfl
 have hy:bO (dl (aB Q)) (.str eO)=dl (aB (Q++[eO])):=(cQ Q eO).symm
 generalize uZ [k0,k1,k2,k3,k4,k5] la ba P=PK at *
 generalize m/2%2=s at *
 match s,l22,p2.1 with
 |0,_,n5=>
  have lE3:(PK++[(32,la)]).length≤308:=by rw[List.length_append];exact Nat.succ_le_succ lE
  have pf:=iX z (nm:=nm) (f:=none) (l:=(some [])) (q:=gD (m/4%2)) (hp:=KL r j w nm gap 4 (aX la) [(aI,.dat .non),(aL,.dat .non),(dT,.dat (.int (Int.ofNat m))),(aQ,.dat (.str [k0,k1,k2,k3,k4,k5]))] (dl (bL T.tail)) (dl (aB Q)) (dl (aF (PK++[(32,la)]))) c1 c2 (aX ba) [k0,k1,k2,k3,k4]) hw (Nat.le_trans lE3 (by decide)) (Nat.le_trans hQ (by decide)) rfl rfl
  rw[← cB,← hZ]at pf
  have z9:Nat.ble (dl (aF (PK++[(32,la)]++qS nm none (some []) w4 (gD (m/4%2)) Q))).length lim=true:=cJ (by rw[List.length_append];exact Nat.le_trans (Nat.add_le_add lE3 (gE hw)) (by decide))
  refine .mk _ (Iy z z1 z2 z3 p2.2 z4 p8.2 p4.2 z9 n1 (kW z) hK n4 n5 (g0 z) p8.1 pc p4.1 (oH z l4) pf (gR z (Nat.le_trans (gG hw) (by omega)))) ?_
  rw[cB]
  exact dX rfl
 |1,_,n5=>
  have lQ3:(Q++[eO]).length≤301:=by rw[List.length_append];exact Nat.succ_le_succ hQ
  have pf:=iX z (nm:=nm) (f:=none) (l:=(some [])) (q:=gD (m/4%2)) (hp:=KL r j w nm gap 4 (aX la) [(aI,.dat .non),(aL,.dat .non),(dT,.dat (.int (Int.ofNat m))),(aQ,.dat (.str [k0,k1,k2,k3,k4,k5]))] (dl (bL T.tail)) (dl (aB (Q++[eO]))) (dl (aF PK)) c1 c2 (aX ba) [k0,k1,k2,k3,k4]) hw (Nat.le_trans lE (by decide)) (Nat.le_trans lQ3 (by decide)) rfl rfl
  rw[← hy,← hZ]at pf
  have z9:Nat.ble (dl (aF (PK++qS nm none (some []) w4 (gD (m/4%2)) (Q++[eO])))).length lim=true:=cJ (by rw[List.length_append];exact Nat.le_trans (Nat.add_le_add lE (gE hw)) (by decide))
  refine .mk _ (Iz z z1 z2 z3 p2.2 y1 p8.2 p4.2 z9 n1 (kW z) hK n4 n5 (g0 z) p8.1 pc p4.1 (oH z l4) pf (gR z (Nat.le_trans (gG hw) (by omega)))) ?_
  rw[cB]
  exact dX rfl
end
end
section
section
variable (z:c8){r j fm:Nat}{T:List Nat}{Q:List Nm}{P:List b9}{w nm gap:Nm}{c1 c2:D}{la ba:List Item}{f l:Option Nm}{q:Nat}
noncomputable def KG (k:Nat)(nm:Nm)(w4:Nm)(Q4:List Nm)(P:List b9):List b9:=match k with
 |0=>P++[(32,bT (Q4++[aY]) (.doc nm (some (aE w4)) none false))]
 |_=>P
noncomputable def TV (m:Nat)(nm:Nm)(la ba:List Item)(P:List b9)(Q:List Nm):List b9:=
 KG (m/32%2) nm (dE aM (m/8%4)) (m5 (dE aM (m/8%4)) (gD (m/4%2)) (m7 (m/2%2) Q)) (NA (m/2%2) la (uZ (dE cZ (kX 3 m)) la ba P)++qS nm none none (dE aM (m/8%4)) (gD (m/4%2)) (m7 (m/2%2) Q))++
  qS nm (some (aE (dE aM (m/8%4)))) (some []) (dE aM (m/128%4)) (gD (m/64%2)) (m7 (m/32%2) (m5 (dE aM (m/8%4)) (gD (m/4%2)) (m7 (m/2%2) Q)))
noncomputable def TW (m:Nat)(Q:List Nm):List Nm:=m5 (dE aM (m/128%4)) (gD (m/64%2)) (m7 (m/32%2) (m5 (dE aM (m/8%4)) (gD (m/4%2)) (m7 (m/2%2) Q)))
theorem FJ {fr:List (Nm×V)}{X Z:List V}{it:D}{bad:D}{b:Nm}(h:Q.length≤1000):CallOk z.c 1 839 [.ref 10,.dat it] (KJ r j w nm gap 3 (aX la) fr X (dl (aB Q)) Z c1 c2 bad b) (.dat (.lst (b8 (Q++[aY]) it))) (KJ r j w nm gap 3 (aX la) fr X (dl (aB Q)) Z c1 c2 bad b):=by
 have e:bO (dl (aB Q)) (.str aY)=dl (aB (Q++[aY])):=(cQ Q aY).symm
 unfold KJ J1
 rw[e]
 exact eS (c:=z.c) (hp:=KL r j w nm gap 3 (aX la) fr X (dl (aB Q)) Z c1 c2 bad b++[.lst [.dat (.str aY)],.lst (dl (aB (Q++[aY])))]) (l:=10) (d:=.lst (b8 (Q++[aY]) it)) (ds:=[it]) (X:=aB (Q++[aY])) (Y:=aB (Q++[aY])) rfl (iV z (by rw[List.length_append];exact Nat.le_trans (Nat.succ_le_succ h) (by decide)))
theorem KH {fr:List (Nm×V)}{X Z Y0:List V}{bad:D}{b:Nm}(h:Q.length≤10000):CallOk z.c 1 839 [.ref 5,.dat (Item.doc nm f l true).toD] (uY r j w nm gap 3 (aX la) fr X (dl (aB Q)) Z c1 c2 bad b Y0) (.dat (aX (fY Q nm f l))) (uY r j w nm gap 3 (aX la) fr X (dl (aB Q)) Z c1 c2 bad b Y0):=gR z (J:=[.lst (gY b bad),.gone]++J1 aY Y0) h
theorem ND {m:Nat}(hm:m<5041)(e:T.headD 0=m)(hP:P.length≤300)(hQ:Q.length≤300)(hT:T.length≤1000):TailR z (DT r j w nm gap 3 (aX la) (dl (bL T)) (dl (aB Q)) (dl (aF P)) c1 c2 (aX ba)) (TV m nm la ba P Q++[(62,fY (TW m Q) nm (some (aE (dE aM (m/8%4)))) (some (aE (dE aM (m/128%4)))))]) T.tail:=by
 have l2:m%2<2:=Nat.mod_lt _ (by decide)
 have lk:kX 3 m<4:=by show m%2+0<4;omega
 have hk:=eI (l:=cZ) lk
 have l8:m/8%4<4:=Nat.mod_lt _ (by decide)
 have h8:=eI (l:=aM) l8
 have hw:=lF _ (List.mem_of_getElem? h8)
 have l128:m/128%4<4:=Nat.mod_lt _ (by decide)
 have h128:=eI (l:=aM) l128
 have hw6:=lF _ (List.mem_of_getElem? h128)
 have l64:m/64%2<2:=Nat.mod_lt _ (by decide)
 have l32:m/32%2<2:=Nat.mod_lt _ (by decide)
 have p32:=eJ (m:=m) (a:=32) (b:=2) hm (by decide)
 have p64:=eJ (m:=m) (a:=64) (b:=2) hm (by decide)
 have p128:=eJ (m:=m) (a:=128) (b:=4) hm (by decide)
 have sc:∀ hp,bZ z.c 7 hp getItem z.c.VT (.dat (.lst (aB aM))) (.dat (.int (Int.ofNat (m/128%4)))) (.dat (.str (dE aM (m/128%4)))) hp:=fun hp=>iD z (by rw[aB,List.getElem?_map,h128];rfl) (Nat.lt_trans l128 (by decide)) hp
 have l4:m/4%2<2:=Nat.mod_lt _ (by decide)
 have l22:m/2%2<2:=Nat.mod_lt _ (by decide)
 have p2:=eJ (m:=m) (a:=2) (b:=2) hm (by decide)
 have p8:=eJ (m:=m) (a:=8) (b:=4) hm (by decide)
 have p4:=eJ (m:=m) (a:=4) (b:=2) hm (by decide)
 have hK:(V.dat (.int (Int.fmod (Int.ofNat m) 2+0)):V)=.dat (.int (Int.ofNat (kX 3 m))):=by
  have q:=eD m 2
  have q:Int.fmod (Int.ofNat m) 2=Int.ofNat (m%2):=by injection q with q;injection q
  rw[q];rfl
 have n4:∀ hp,bZ z.c 7 hp getItem z.c.VT (.dat (.lst (aB cZ))) (.dat (.int (Int.ofNat (kX 3 m)))) (.dat (.str (dE cZ (kX 3 m)))) hp:=fun hp=>iD z (by rw[aB,List.getElem?_map,hk];rfl) (Nat.lt_trans lk (by decide)) hp
 have pc:∀ hp,bZ z.c 7 hp getItem z.c.VT (.dat (.lst (aB aM))) (.dat (.int (Int.ofNat (m/8%4)))) (.dat (.str (dE aM (m/8%4)))) hp:=fun hp=>iD z (by rw[aB,List.getElem?_map,h8];rfl) (Nat.lt_trans l8 (by decide)) hp
 have z1:=cJ (P:=P) (Nat.le_trans hP (by decide))
 have z2:Nat.ble ((bO (dl (aF P)) (cT 32 (aX la))).length+5) lim=true:=fI (m:=400) (by rw[cB,cG,List.length_append];show P.length+1+5≤_;omega) rfl
 have hk6:=TU _ (List.mem_of_getElem? hk)
 unfold TV TW
 generalize dE cZ (kX 3 m)=key at *
 generalize dE aM (m/8%4)=w4 at *
 generalize dE aM (m/128%4)=w6 at *
 obtain⟨k0,k1,k2,k3,k4,k5,rfl⟩:=hk6
 have z3:Nat.ble (bO (dl (aF P)) (cT 32 (aX la))++gY [k0,k1,k2,k3,k4] (aX ba)).length lim=true:=fI (m:=400) (by rw[cB,List.length_append,cG,List.length_append];show P.length+1+5≤_;omega) rfl
 have lE:(uZ [k0,k1,k2,k3,k4,k5] la ba P).length≤307:=by unfold uZ;rw[List.length_append,List.length_append,List.length_append];show P.length+1+5+1≤_;omega
 have n1:=pE z (hp:=DH (FT r j w nm gap 3 (aX la) lW) (dl (bL T)) (dl (aB Q)) (bO (dl (aF P)) (cT 32 (aX la))) c1 c2 (some (.dat (aX ba)))) hT rfl
 rw[e]at n1
 have hZ:=uL (P:=P) (la:=la) (ba:=ba) (k0:=k0) (k1:=k1) (k2:=k2) (k3:=k3) (k4:=k4) (k5:=k5)
 have z4:Nat.ble (ZK (dl (aF P)) (aX la) (aX ba) k0 k1 k2 k3 k4 k5).length lim=true:=by rw[hZ];exact cJ (Nat.le_trans lE (by decide))
 have y1:Nat.ble (dl (aB Q)).length lim=true:=fI (m:=300) (by rw[cY];exact hQ) rfl
 have hy:bO (dl (aB Q)) (.str eO)=dl (aB (Q++[eO])):=(cQ Q eO).symm
 generalize uZ [k0,k1,k2,k3,k4,k5] la ba P=PK at *
 generalize m/2%2=s at *
 generalize m/32%2=d at *
 generalize m/4%2=b4 at *
 generalize m/64%2=b6 at *
 match s,l22,p2.1 with
 |0,_,n5=>
  have lE3:(PK++[(32,la)]).length≤308:=by rw[List.length_append];exact Nat.succ_le_succ lE
  have lQ3:Q.length≤301:=Nat.le_trans hQ (by decide)
  have pf:=iX z (nm:=nm) (f:=none) (l:=none) (q:=gD b4) (hp:=KL r j w nm gap 3 (aX la) [(aI,.dat .non),(aL,.dat .non),(dT,.dat (.int (Int.ofNat m))),(aQ,.dat (.str [k0,k1,k2,k3,k4,k5]))] (dl (bL T.tail)) (dl (aB Q)) (dl (aF (PK++[(32,la)]))) c1 c2 (aX ba) [k0,k1,k2,k3,k4]) hw (Nat.le_trans lE3 (by decide)) (Nat.le_trans lQ3 (by decide)) rfl rfl
  rw[← cB,← hZ]at pf
  have lP4:((PK++[(32,la)])++qS nm none none w4 (gD b4) Q).length≤410:=by rw[List.length_append];exact Nat.add_le_add lE3 (gE hw)
  have lQ4:(m5 w4 (gD b4) Q).length≤403:=Nat.le_trans (gG hw) (Nat.add_le_add_right lQ3 102)
  show TailR z _ (KG d nm w4 (m5 w4 (gD b4) Q) ((PK++[(32,la)])++qS nm none none w4 (gD b4) Q)++qS nm (some (aE w4)) (some []) w6 (gD b6) (m7 d (m5 w4 (gD b4) Q))++[(62,fY (m5 w6 (gD b6) (m7 d (m5 w4 (gD b4) Q))) nm (some (aE w4)) (some (aE w6)))]) _
  generalize ((PK++[(32,la)])++qS nm none none w4 (gD b4) Q)=P4 at *
  generalize (m5 w4 (gD b4) Q)=Q4 at *
  match d,l32,p32.1 with
  |0,_,n6=>
   have lP5:(P4++[(32,(bT (Q4++[aY]) (.doc nm (some (aE w4)) none false)))]).length≤411:=by rw[List.length_append];exact Nat.succ_le_succ lP4
   have n7:CallOk z.c 1 839 [.ref 10,.dat (Item.doc nm (some (aE w4)) none false).toD] (KJ r j w nm gap 3 (aX la) [(aI,.dat (.str (aE w4))),(aL,.dat .non),(dT,.dat (.int (Int.ofNat m))),(aQ,.dat (.str [k0,k1,k2,k3,k4,k5]))] (dl (bL T.tail)) (dl (aB Q4)) (dl (aF P4)) c1 c2 (aX ba) [k0,k1,k2,k3,k4]) (.dat (aX (bT (Q4++[aY]) (.doc nm (some (aE w4)) none false)))) (KJ r j w nm gap 3 (aX la) [(aI,.dat (.str (aE w4))),(aL,.dat .non),(dT,.dat (.int (Int.ofNat m))),(aQ,.dat (.str [k0,k1,k2,k3,k4,k5]))] (dl (bL T.tail)) (dl (aB Q4)) (dl (aF P4)) c1 c2 (aX ba) [k0,k1,k2,k3,k4]):=by
    unfold aX
    rw[← fH]
    exact FJ z (Nat.le_trans lQ4 (by decide))
   have pf2:=iX z (nm:=nm) (f:=some (aE w4)) (l:=some []) (q:=gD b6) (hp:=uY r j w nm gap 3 (aX la) [(aI,.dat (.str (aE w4))),(aL,.dat .non),(dT,.dat (.int (Int.ofNat m))),(aQ,.dat (.str [k0,k1,k2,k3,k4,k5]))] (dl (bL T.tail)) (dl (aB Q4)) (dl (aF (P4++[(32,(bT (Q4++[aY]) (.doc nm (some (aE w4)) none false)))]))) c1 c2 (aX ba) [k0,k1,k2,k3,k4] (dl (aB Q4))) hw6 (Nat.le_trans lP5 (by decide)) (Nat.le_trans lQ4 (by decide)) rfl rfl
   rw[← cB]at pf2
   refine .mk _ (FE z z1 z2 z3 p2.2 z4 p8.2 p4.2 p32.2 (fI (m:=404) (by rw[cY];exact Nat.succ_le_succ lQ4) rfl) (cJ (Nat.le_trans lP4 (by decide))) p128.2 p64.2 (cJ (by rw[List.length_append];exact Nat.le_trans (Nat.add_le_add lP5 (gE hw6)) (by decide))) n1 (kW z) hK n4 n5 (g0 z) p8.1 pc p4.1 (oH z l4) pf n6 n7 (g0 z) p128.1 sc p64.1 (oH z l64) pf2 (KH z (Nat.le_trans (gG hw6) (by omega)))) ?_
   rw[cB]
   exact dX rfl
  |1,_,n6=>
   have lQ5:(Q4++[eO]).length≤404:=by rw[List.length_append];exact Nat.succ_le_succ lQ4
   have pf2:=iX z (nm:=nm) (f:=some (aE w4)) (l:=some []) (q:=gD b6) (hp:=KL r j w nm gap 3 (aX la) [(aI,.dat (.str (aE w4))),(aL,.dat .non),(dT,.dat (.int (Int.ofNat m))),(aQ,.dat (.str [k0,k1,k2,k3,k4,k5]))] (dl (bL T.tail)) (dl (aB (Q4++[eO]))) (dl (aF P4)) c1 c2 (aX ba) [k0,k1,k2,k3,k4]) hw6 (Nat.le_trans lP4 (by decide)) (Nat.le_trans lQ5 (by decide)) rfl rfl
   rw[cQ Q4 eO]at pf2
   refine .mk _ (FF z (e3:=.non) z1 z2 z3 p2.2 z4 p8.2 p4.2 p32.2 (fI (m:=403) (by rw[cY];exact lQ4) rfl) p128.2 p64.2 (cJ (by rw[List.length_append];exact Nat.le_trans (Nat.add_le_add lP4 (gE hw6)) (by decide))) n1 (kW z) hK n4 n5 (g0 z) p8.1 pc p4.1 (oH z l4) pf n6 (g0 z) p128.1 sc p64.1 (oH z l64) pf2 (gR z (Nat.le_trans (gG hw6) (by omega)))) ?_
   rw[cB]
   exact dX rfl
 |1,_,n5=>
  have lE3:PK.length≤308:=Nat.le_trans lE (by decide)
  have lQ3:(Q++[eO]).length≤301:=by rw[List.length_append];exact Nat.succ_le_succ hQ
  have pf:=iX z (nm:=nm) (f:=none) (l:=none) (q:=gD b4) (hp:=KL r j w nm gap 3 (aX la) [(aI,.dat .non),(aL,.dat .non),(dT,.dat (.int (Int.ofNat m))),(aQ,.dat (.str [k0,k1,k2,k3,k4,k5]))] (dl (bL T.tail)) (dl (aB (Q++[eO]))) (dl (aF PK)) c1 c2 (aX ba) [k0,k1,k2,k3,k4]) hw (Nat.le_trans lE3 (by decide)) (Nat.le_trans lQ3 (by decide)) rfl rfl
  rw[← hy,← hZ]at pf
  have lP4:(PK++qS nm none none w4 (gD b4) (Q++[eO])).length≤410:=by rw[List.length_append];exact Nat.add_le_add lE3 (gE hw)
  have lQ4:(m5 w4 (gD b4) (Q++[eO])).length≤403:=Nat.le_trans (gG hw) (Nat.add_le_add_right lQ3 102)
  show TailR z _ (KG d nm w4 (m5 w4 (gD b4) (Q++[eO])) (PK++qS nm none none w4 (gD b4) (Q++[eO]))++qS nm (some (aE w4)) (some []) w6 (gD b6) (m7 d (m5 w4 (gD b4) (Q++[eO])))++[(62,fY (m5 w6 (gD b6) (m7 d (m5 w4 (gD b4) (Q++[eO])))) nm (some (aE w4)) (some (aE w6)))]) _
  generalize (PK++qS nm none none w4 (gD b4) (Q++[eO]))=P4 at *
  generalize (m5 w4 (gD b4) (Q++[eO]))=Q4 at *
  match d,l32,p32.1 with
  |0,_,n6=>
   have lP5:(P4++[(32,(bT (Q4++[aY]) (.doc nm (some (aE w4)) none false)))]).length≤411:=by rw[List.length_append];exact Nat.succ_le_succ lP4
   have n7:CallOk z.c 1 839 [.ref 10,.dat (Item.doc nm (some (aE w4)) none false).toD] (KJ r j w nm gap 3 (aX la) [(aI,.dat (.str (aE w4))),(aL,.dat .non),(dT,.dat (.int (Int.ofNat m))),(aQ,.dat (.str [k0,k1,k2,k3,k4,k5]))] (dl (bL T.tail)) (dl (aB Q4)) (dl (aF P4)) c1 c2 (aX ba) [k0,k1,k2,k3,k4]) (.dat (aX (bT (Q4++[aY]) (.doc nm (some (aE w4)) none false)))) (KJ r j w nm gap 3 (aX la) [(aI,.dat (.str (aE w4))),(aL,.dat .non),(dT,.dat (.int (Int.ofNat m))),(aQ,.dat (.str [k0,k1,k2,k3,k4,k5]))] (dl (bL T.tail)) (dl (aB Q4)) (dl (aF P4)) c1 c2 (aX ba) [k0,k1,k2,k3,k4]):=by
    unfold aX
    rw[← fH]
    exact FJ z (Nat.le_trans lQ4 (by decide))
   have pf2:=iX z (nm:=nm) (f:=some (aE w4)) (l:=some []) (q:=gD b6) (hp:=uY r j w nm gap 3 (aX la) [(aI,.dat (.str (aE w4))),(aL,.dat .non),(dT,.dat (.int (Int.ofNat m))),(aQ,.dat (.str [k0,k1,k2,k3,k4,k5]))] (dl (bL T.tail)) (dl (aB Q4)) (dl (aF (P4++[(32,(bT (Q4++[aY]) (.doc nm (some (aE w4)) none false)))]))) c1 c2 (aX ba) [k0,k1,k2,k3,k4] (dl (aB Q4))) hw6 (Nat.le_trans lP5 (by decide)) (Nat.le_trans lQ4 (by decide)) rfl rfl
   rw[← cB]at pf2
   refine .mk _ (FG z z1 z2 z3 p2.2 y1 p8.2 p4.2 p32.2 (fI (m:=404) (by rw[cY];exact Nat.succ_le_succ lQ4) rfl) (cJ (Nat.le_trans lP4 (by decide))) p128.2 p64.2 (cJ (by rw[List.length_append];exact Nat.le_trans (Nat.add_le_add lP5 (gE hw6)) (by decide))) n1 (kW z) hK n4 n5 (g0 z) p8.1 pc p4.1 (oH z l4) pf n6 n7 (g0 z) p128.1 sc p64.1 (oH z l64) pf2 (KH z (Nat.le_trans (gG hw6) (by omega)))) ?_
   rw[cB]
   exact dX rfl
  |1,_,n6=>
   have lQ5:(Q4++[eO]).length≤404:=by rw[List.length_append];exact Nat.succ_le_succ lQ4
   have pf2:=iX z (nm:=nm) (f:=some (aE w4)) (l:=some []) (q:=gD b6) (hp:=KL r j w nm gap 3 (aX la) [(aI,.dat (.str (aE w4))),(aL,.dat .non),(dT,.dat (.int (Int.ofNat m))),(aQ,.dat (.str [k0,k1,k2,k3,k4,k5]))] (dl (bL T.tail)) (dl (aB (Q4++[eO]))) (dl (aF P4)) c1 c2 (aX ba) [k0,k1,k2,k3,k4]) hw6 (Nat.le_trans lP4 (by decide)) (Nat.le_trans lQ5 (by decide)) rfl rfl
   rw[cQ Q4 eO]at pf2
   refine .mk _ (FH z (e3:=.non) z1 z2 z3 p2.2 y1 p8.2 p4.2 p32.2 (fI (m:=403) (by rw[cY];exact lQ4) rfl) p128.2 p64.2 (cJ (by rw[List.length_append];exact Nat.le_trans (Nat.add_le_add lP4 (gE hw6)) (by decide))) n1 (kW z) hK n4 n5 (g0 z) p8.1 pc p4.1 (oH z l4) pf n6 (g0 z) p128.1 sc p64.1 (oH z l64) pf2 (gR z (Nat.le_trans (gG hw6) (by omega)))) ?_
   rw[cB]
   exact dX rfl
end
end
section
noncomputable def uM (r:Nat):Nm:=dE lV (r/3%3)
noncomputable def gS (r:Nat):Nm:=dE fV (r/9%4)
noncomputable def NF (r:Nat):List Nm:=cD (gS r) (j0 (uM r)) (gS r).length
noncomputable def KM (r:Nat):List b9:=lN (dE dB (r%3)) (uM r)++jW (gS r) (j0 (uM r)) (gS r).length
noncomputable def Qz (fm m:Nat)(nm:Nm)(P:List b9)(Q:List Nm):List b9:=match fm with
 |0=>P++[(62,fY Q nm none none)]
 |1=>P++[(32,gQ Q nm)]++[(62,fY Q nm none none)]
 |2=>OF 2 m nm (gQ Q nm) (qQ Q nm) P Q++[(62,fY (OG m Q) nm (some (aE (dE aM (m/8%4)))) none)]
 |3=>TV m nm (gQ Q nm) (qQ Q nm) P Q++[(62,fY (TW m Q) nm (some (aE (dE aM (m/8%4)))) (some (aE (dE aM (m/128%4)))))]
 |4=>OF 4 m nm (gQ Q nm) (qQ Q nm) P Q++[(62,fY (OG m Q) nm none (some (aE (dE aM (m/8%4)))))]
 |_=>P++[(32,gQ Q nm)]++uK (dE j8 (m%4)++[62]) (qQ Q nm)
noncomputable def jI (r:Nat)(T:List Nat):List b9:=Qz (r/36%6) (T.headD 0) (bK (gS r)) (KM r) (NF r)
noncomputable def fW (r:Nat)(T:List Nat):List Nat:=match r/36%6 with
 |0=>T
 |1=>T
 |_=>T.tail
theorem sQ (g:Nm):(j0 g).length≤1:=match g with
 | []=>Nat.le_refl _
 |_::_=>Nat.zero_le _
theorem JB:∀ w∈dB,∀ g∈lV,(lN w g).length≤20:=by decide+kernel
section
variable (z:c8){r:Nat}{T:List Nat}
theorem Ap (hr:r<5041)(hT:T.length≤1000)(hm:T.headD 0<5041):CallOk z.c 8 893 [.dat (.int (Int.ofNat r)),.ref 0] [.lst (dl (bL T))] (.dat (.lst (aF (jI r T)))) [.lst (dl (bL (fW r T)))]:=by
 have a:=Qx z (r:=r) (T:=bL T) hr
 have hP:(lN (dE dB (r%3)) (dE lV (r/3%3))).length≤20:=JB _ (List.mem_of_getElem? (eI (l:=dB) (Nat.mod_lt _ (by decide)))) _ (List.mem_of_getElem? (eI (l:=lV) (Nat.mod_lt _ (by decide))))
 have hQ:=sQ (dE lV (r/3%3))
 have hN:=sO (gS r) (List.mem_of_getElem? (eI (l:=fV) (Nat.mod_lt _ (by decide))))
 obtain⟨j,b⟩:=Mw z (r:=r) (T:=bL T) (gap:=dE lV (r/3%3)) (c1:=.str (dE dB (r%3))) (c2:=aX eH) (fm:=r/36%6) (w:=gS r) hr (Nat.le_trans hP (by decide)) (Nat.le_trans hQ (by decide)) rfl rfl
 have l1:(NF r).length≤300:=Nat.le_trans (jH _ _ _) (by show(j0 (uM r)).length+_≤_;have:=sQ (uM r);have:=hN.2.1;omega)
 have l2:(KM r).length≤300:=by
  unfold KM
  rw[List.length_append]
  exact Nat.le_trans (Nat.add_le_add hP (Nat.le_trans (qP _ _ _) hN.2.1)) (by decide)
 have l6:r/36%6<6:=Nat.mod_lt _ (by decide)
 have t:TailR z (DT r j (gS r) (bK (gS r)) (uM r) (r/36%6) (aX (gQ (NF r) (bK (gS r)))) (dl (bL T)) (dl (aB (NF r))) (dl (aF (KM r))) (.str (dE dB (r%3))) (aX eH) (aX (qQ (NF r) (bK (gS r))))) (jI r T) (fW r T):=by
  unfold jI fW
  generalize r/36%6=fm at *
  match fm,l6 with
  |0,_=>exact Mx z (Nat.le_trans l2 (by decide)) (Nat.le_trans l1 (by decide))
  |1,_=>exact My z (Nat.le_trans l2 (by decide)) (Nat.le_trans l1 (by decide))
  |2,_=>exact NB z hm rfl l2 l1 hT
  |3,_=>exact ND z hm rfl l2 l1 hT
  |4,_=>exact NC z hm rfl l2 l1 hT
  |5,_=>exact Mz z (Nat.le_trans l2 (by decide)) hT
 exact match t with
  |.mk hp' h f=>by
   have e:cO.body=cO.body.take 7++((cO.body.drop 7).take 7++cO.body.drop 14):=by kernel_rfl
   have all:RX z.c cO.names 7 FD (D0 r (dl (bL T))) cO.body (.ret (.ref 6)) (.lst (dl (bL (fW r T)))::hp'):=e▸uE a (uE b h)
   have c:CallOk z.c 8 893 [.dat (.int (Int.ofNat r)),.ref 0] [.lst (dl (bL T))] (.ref 6) (.lst (dl (bL (fW r T)))::hp'):=iL (F:=cO) (by kernel_rfl) (by kernel_rfl) (by kernel_rfl) (by kernel_rfl) all
   exact dF c (EY (l:=5) f)
end
end
section
noncomputable def jX (n:Nat)(T:List Nat):List b9:=match n%4 with
 |0=>mZ (n/4)
 |1=>jI (n/4) T
 |2=>fM bI (dE gW (n/4%11))
 |_=>fM nO (dE gO (n/4%6))
noncomputable def e7 (n:Nat)(T:List Nat):List Nat:=match n%4 with
 |1=>fW (n/4) T
 |_=>T
theorem FK {c:Cx}{m f l:Nat}{hp:List O}{d e:D}{X Y:List D}(hx:hp[l]? =some (.lst (dl X)))(h:CallOk c m f [.dat e,.ref 0] [.lst (dl X)] (.dat d) [.lst (dl Y)]):CallOk c m f [.dat e,.ref l] hp (.dat d) (hp.set l (.lst (dl Y))):=by
 have lt:=mU hx
 have g:Jj [l] [.dat e,.ref l] hp=true:=by
  refine eM (eM rfl ?_) (eM ?_ ?_)
  ·exact eM (Nat.ble_eq_true_of_le lt) rfl
  ·exact eM rfl (eM (xX l []) rfl)
  ·show((hp[l]?.getD .gone).cl _&&true)=true
   rw[fK hx]
   exact eM (cP _ X) rfl
 have q:=mB (n:=m) (v:=.dat d) (hpS:=[.lst (dl Y)]) g (Nat.ble_eq_true_of_le (Nat.le_refl m)) (by
  show CallOk c m f [.dat e,.ref (kr [l] l)] [(hp[l]?.getD .gone).ren _] _ _
  rw[fK hx,MW]
  show CallOk c m f _ [.lst ((dl X).map _)] _ _
  rw[cF]
  exact h)
 rw[EU lt]at q
 have e:(O.lst (dl Y)).ren (rn [l] hp.length)=.lst (dl Y):=congrArg O.lst (cF _ Y)
 rw[e]at q
 exact q
section
variable (z:c8){sD s0:D}{t w:Nm}{n m:Nat}{x:Option V}{cw:Option V}{T:List Nat}{P:List D}{fo:List (Nm×V)}
noncomputable abbrev OH (fo:List (Nm×V)):Prop:=fo=[]∨∃ a v,fo=[(kC,a),(aV,v)]
noncomputable abbrev OI (cw:Option V):Prop:=cw=none∨∃ d,cw=some (.dat d)
inductive T1R (z:c8) (sD s0:D) (t:Nm) (fo:List (Nm×V)) (cw:Option V) (T:List Nat) (P:List D) (m:Nat) (p:List b9) (T':List Nat):Prop
 |mk (cw':Option V) (hc:OI cw') (h:RX z.c cH.names 17 FL (LW sD s0 t fo cw T P) (iF.b.take 2) .next (LP sD s0 t m p cw' T' P))
theorem FM:CallOk z.c 1 808 [] [] (.dat (.lst (aB gW))) []:=z.use (hs:=[]) (o:=.auto) (g:=true) rfl trivial (by kernel_rfl)
theorem zU:CallOk z.c 1 815 [] [] (.dat (.lst (aB gO))) []:=z.use (hs:=[]) (o:=.auto) (g:=true) rfl trivial (by kernel_rfl)
theorem Aq:∀ w∈gO,w.length≤100∧∀ k<w.length,cut w none (some (Int.ofNat (k+1)))∈TN:=by decide+kernel
theorem x8:∀ w∈gW,w.length≤100:=by decide+kernel
theorem FN (hT:T.length≤1000):CallOk z.c 1 822 [.ref 2] (gX sD s0 t fo cw (dl (bL T)) (dl P)) (.dat (.int (Int.ofNat (T.headD 0)))) (gX sD s0 t fo cw (dl (bL T.tail)) (dl P)):=eS (c:=z.c) (hp:=gX sD s0 t fo cw (dl (bL T)) (dl P)) (l:=2) (ds:=[]) rfl (x0 z hT)
theorem NG (hfo:OH fo)(hcw:OI cw)(hT:T.length≤1000)(hm:∀ x∈T,x<5040):T1R z sD s0 t fo cw T P (T.headD 0) (jX (T.headD 0) T.tail) (e7 (T.headD 0) T.tail):=by
 have h0:=FN z (sD:=sD) (s0:=s0) (t:=t) (fo:=fo) (cw:=cw) (T:=T) (P:=P) hT
 have hd0:∀ T:List Nat,(∀ x∈T,x<5040)→T.headD 0<5041:=fun T h=>match T,h with
  | [],_=>by decide
  |a::_,h=>Nat.lt_succ_of_lt (h a (.head _))
 have hm0:=hd0 T hm
 have hmt:=hd0 T.tail fun x hx=>hm x (List.mem_of_mem_tail hx)
 have hTt:T.tail.length≤1000:=Nat.le_trans (by rw[List.length_tail];exact Nat.sub_le ..) hT
 generalize T.headD 0=m at *
 generalize T.tail=T' at *
 have hd:(!Builtin.divisionGoesByPylong (Int.ofNat m) 4)=true:=(eJ (m:=m) (a:=4) (b:=1) hm0 (by decide)).2
 have h2:(V.dat (.int (Int.fdiv (Int.ofNat m) 4)):V)=.dat (.int (Int.ofNat (m/4))):=congrArg (fun i=>V.dat (.int i)) (jG m 4)
 have h1:=eD m 4
 have l4:m%4<4:=Nat.mod_lt _ (by decide)
 have lq:m/4<5041:=Nat.lt_of_le_of_lt (Nat.div_le_self ..) hm0
 unfold jX e7
 generalize m%4=k at *
 match k,l4,h1 with
 |0,_,h1=>
  have h3:=Al z (r:=m/4) lq
  rcases hfo with rfl|⟨a,v,rfl⟩
  ·exact .mk cw hcw (El z (k:=0) h0 h1 hd h2 (tJ (by decide) h3))
  ·exact .mk cw hcw (Em z (k:=0) h0 h1 hd h2 (tJ (by decide) h3))
 |1,_,h1=>
  have h3:=fun fo=>FK (c:=z.c) (hp:=gX sD s0 t fo cw (dl (bL T')) (dl P)) (l:=2) rfl (Ap z (r:=m/4) (T:=T') lq hTt hmt)
  rcases hfo with rfl|⟨a,v,rfl⟩
  ·exact .mk cw hcw (En z (k:=0) h0 h1 hd h2 (h3 _))
  ·exact .mk cw hcw (Eo z (k:=0) h0 h1 hd h2 (h3 _))
 |2,_,h1=>
  have lk:m/4%11<11:=Nat.mod_lt _ (by decide)
  have hk:=eI (l:=gW) lk
  have hp:=x8 _ (List.mem_of_getElem? hk)
  have hw:(dE gW (m/4%11)).length≤100:=hp
  have h5:∀ x,RS z.c cH.names 17 FL (LW sD s0 t (oG m x) (some (.dat (.str (dE gW (m/4%11))))) T' P) qL.s .next (LW sD s0 t (oG m (some (.ref 4))) (some (.dat (.str (dE gW (m/4%11))))) T' P++[.lst (dl (aF (fM bI (dE gW (m/4%11))))),.gone]):=fun x=>IX z (p:=bI) hw (fun k _=>KF z (Nat.le_trans (hI _ _ _) (Nat.le_trans hw (by decide))))
  have h4:∀ hp,bZ z.c 17 hp getItem z.c.VT (.dat (.lst (aB gW))) (.dat (.int (Int.ofNat (m/4%11)))) (.dat (.str (dE gW (m/4%11)))) hp:=fun hp=>iD z (by rw[aB,List.getElem?_map,hk];rfl) (Nat.lt_trans lk (by decide)) hp
  have hf:(V.dat (.int (Int.fmod (Int.fdiv (Int.ofNat m) 4) 11)):V)=.dat (.int (Int.ofNat (m/4%11))):=(eJ (m:=m) (a:=4) (b:=11) hm0 (by decide)).1
  rcases hfo with rfl|⟨a,v,rfl⟩
  ·exact .mk _ (.inr ⟨_,rfl⟩) (mT (Ep z h0 h1 hd (FM z) hf h4 (h5 none)) m3)
  ·exact .mk _ (.inr ⟨_,rfl⟩) (mT (Er z h0 h1 hd (FM z) hf h4 (h5 (some v))) m3)
 |3,_,h1=>
  have lk:m/4%6<6:=Nat.mod_lt _ (by decide)
  have hk:=eI (l:=gO) lk
  have hp:=Aq _ (List.mem_of_getElem? hk)
  have hw:(dE gO (m/4%6)).length≤100:=hp.1
  have h5:∀ x,RS z.c cH.names 17 FL (LW sD s0 t (oG m x) (some (.dat (.str (dE gO (m/4%6))))) T' P) qM.s .next (LW sD s0 t (oG m (some (.ref 4))) (some (.dat (.str (dE gO (m/4%6))))) T' P++[.lst (dl (aF (fM nO (dE gO (m/4%6))))),.gone]):=fun x=>IY z (p:=nO) hw (fun k lt=>IW z (hp.2 k lt))
  have h4:∀ hp,bZ z.c 17 hp getItem z.c.VT (.dat (.lst (aB gO))) (.dat (.int (Int.ofNat (m/4%6)))) (.dat (.str (dE gO (m/4%6)))) hp:=fun hp=>iD z (by rw[aB,List.getElem?_map,hk];rfl) (Nat.lt_trans lk (by decide)) hp
  have hf:(V.dat (.int (Int.fmod (Int.fdiv (Int.ofNat m) 4) 6)):V)=.dat (.int (Int.ofNat (m/4%6))):=(eJ (m:=m) (a:=4) (b:=6) hm0 (by decide)).1
  rcases hfo with rfl|⟨a,v,rfl⟩
  ·exact .mk _ (.inr ⟨_,rfl⟩) (mT (Es z h0 h1 hd (zU z) hf h4 (h5 none)) m3)
  ·exact .mk _ (.inr ⟨_,rfl⟩) (mT (Et z h0 h1 hd (zU z) hf h4 (h5 (some v))) m3)
end
end
section
section
variable (z:c8){sD s0:D}{t:Nm}{cw:Option V}{T:List Nat}{P:List D}{fo:List (Nm×V)}
noncomputable abbrev LA (sD s0:D)(t:Nm)(fo:List (Nm×V))(cw:Option V)(X Y:List V):List O:=gX sD s0 t fo cw X Y
theorem FO (hl:Nat.ble t.length lim=true)(h:kG (Int.ofNat t.length) 50=false){X Y:List V}:RB z.c cH.names 17 FL (LA sD s0 t fo cw X Y) iF.t false (LA sD s0 t fo cw X Y):=
 z.useT (hs:=[.tst 1356010024 false]) (g:=cg [(false,kG (Int.ofNat t.length) 50),(true,Nat.ble t.length lim)]) (aA h (aA hl aH)) trivial (by kernel_rfl)
theorem NH (hl:Nat.ble t.length lim=true)(h:kG (Int.ofNat t.length) 50=true){X Y:List V}{x:V}(hx:Nat.ble (X.length+1) lim=true):RB z.c cH.names 17 FL (LA sD s0 t fo cw (x::X) Y) iF.t true (LA sD s0 t fo cw (x::X) Y):=
 z.useT (hs:=[.tst 1356010024 true]) (g:=cg [(true,Nat.ble (X.length+1) lim),(true,kG (Int.ofNat t.length) 50),(true,Nat.ble t.length lim)]) (aA hx (aA h (aA hl aH))) trivial (by kernel_rfl)
theorem NI (hl:Nat.ble t.length lim=true)(h:kG (Int.ofNat t.length) 50=true):RB z.c cH.names 17 FL (LA sD s0 t fo cw [] []) iF.t true (LA sD s0 t fo cw [] []):=
 z.useT (hs:=[.tst 1356010024 true]) (g:=cg [(true,kG (Int.ofNat t.length) 50),(true,Nat.ble t.length lim)]) (aA h (aA hl aH)) trivial (by kernel_rfl)
theorem NJ (hl:Nat.ble t.length lim=true)(h:kG (Int.ofNat t.length) 50=true){Y:List V}{y:V}(hy:Nat.ble (Y.length+1) lim=true):RB z.c cH.names 17 FL (LA sD s0 t fo cw [] (y::Y)) iF.t false (LA sD s0 t fo cw [] (y::Y)):=
 z.useT (hs:=[.tst 1356010024 true]) (g:=cg [(true,Nat.ble (Y.length+1) lim),(true,kG (Int.ofNat t.length) 50),(true,Nat.ble t.length lim)]) (aA hy (aA h (aA hl aH))) trivial (by kernel_rfl)
inductive TurnR (z:c8) (sD s0:D) (t:Nm) (fo:List (Nm×V)) (cw:Option V) (T:List Nat) (P:List D) (p:List b9) (T':List Nat):Prop
 |mk (fo':List (Nm×V)) (cw':Option V) (hf:OH fo') (hc:OI cw') (h:RX z.c cH.names 17 FL (LW sD s0 t fo cw T P) iF.b .next (LW sD s0 (t++fA p) fo' cw' T' (P++[.lst (aF p)])))
theorem FP (hfo:OH fo)(hcw:OI cw)(hT:T.length≤1000)(hm:∀ x∈T,x<5040)(hp:(jX (T.headD 0) T.tail).length≤1000)(ht:t.length≤1000)(hP:P.length≤1000):
  TurnR z sD s0 t fo cw T P (jX (T.headD 0) T.tail) (e7 (T.headD 0) T.tail):=match NG z (sD:=sD) (s0:=s0) (t:=t) (P:=P) hfo hcw hT hm with
 |.mk cw' hc h=>.mk _ cw' (.inr ⟨_,_,rfl⟩) hc (by
  have q:=uE h (Mi z hc hp ht hP)
  rw[List.take_append_drop]at q
  exact q)
end
end
section
noncomputable def g7:List (List b9)→Nm
 | []=>[]
 |p::r=>fA p++g7 r
noncomputable def m8 (ps:List (List b9)):List D:=ps.map fun p=>.lst (aF p)
theorem qT (p:List b9):∀ ps:List (List b9),g7 (ps++[p])=g7 ps++fA p
 | []=>List.append_nil _
 |a::r=>by show fA a++g7 (r++[p])=fA a++g7 r++fA p;rw[qT p r,List.append_assoc]
noncomputable def rK (p:List b9):Prop:=∃ n T,n<5040∧(∀ x∈T,x<5040)∧p=jX n T
theorem x9 {r:Nat}{T:List Nat}:∀ x∈fW r T,x∈T:=fun x h=>by
 unfold fW at h
 split at h
 ·exact h
 ·exact h
 ·exact List.mem_of_mem_tail h
theorem FR {n:Nat}{T:List Nat}:∀ x∈e7 n T,x∈T:=fun x h=>by
 unfold e7 at h
 split at h
 ·exact x9 x h
 ·exact h
section
variable (z:c8){sD s0:D}
inductive LoopR (z:c8) (sD s0:D) (hp:List O):Prop
 |mk (m:Nat) (ps:List (List b9)) (T:List Nat) (fo:List (Nm×V)) (cw:Option V) (h:WhlR z.c cH.names 17 FL iF.t iF.b 4 m hp .next (LW sD s0 (g7 ps) fo cw T (m8 ps))) (hps:∀ p∈ps,rK p) (hl:(g7 ps).length≤150) (hn:ps.length≤(g7 ps).length) (hf:OH fo) (hc:OI cw)
theorem FS (hK:∀ p,rK p→0<p.length∧p.length≤100):∀ (k:Nat) (ps:List (List b9)) (T:List Nat) (fo:List (Nm×V)) (cw:Option V),50≤(g7 ps).length+k→(∀ p∈ps,rK p)→(g7 ps).length≤150→ps.length≤(g7 ps).length→OH fo→OI cw→(∀ x∈T,x<5040)→T.length≤1000→
  LoopR z sD s0 (LW sD s0 (g7 ps) fo cw T (m8 ps)):=by
 intro k
 induction k with
 |zero=>
  intro ps T fo cw h50 hps hl hn hf hc _ _
  have e:kG (Int.ofNat (g7 ps).length) 50=false:=by rw[← f8];exact decide_eq_false (by show ¬ ((g7 ps).length:Int)<50;omega)
  exact .mk 1 ps T fo cw (.stop (FO z (fI (m:=150) hl rfl) e)) hps hl hn hf hc
 |succ k ih=>
  intro ps T fo cw h50 hps hl hn hf hc hT hTl
  have hb:Nat.ble (g7 ps).length lim=true:=fI (m:=150) hl rfl
  by_cases lt:(g7 ps).length<50
  ·have e:kG (Int.ofNat (g7 ps).length) 50=true:=by rw[← f8];exact decide_eq_true (by show((g7 ps).length:Int)<50;omega)
   have turn:RB z.c cH.names 17 FL (LW sD s0 (g7 ps) fo cw T (m8 ps)) iF.t true (LW sD s0 (g7 ps) fo cw T (m8 ps))→LoopR z sD s0 (LW sD s0 (g7 ps) fo cw T (m8 ps)):=fun h=>by
    have h0:T.headD 0<5040:=match T,hT with
     | [],_=>by decide
     |a::_,q=>q a (.head _)
    have hm:rK (jX (T.headD 0) T.tail):=⟨_,_,h0,fun x hx=>hT x (List.mem_of_mem_tail hx),rfl⟩
    obtain⟨p0,p1⟩:=hK _ hm
    have t:=FP z (sD:=sD) (s0:=s0) (t:=g7 ps) (P:=m8 ps) hf hc hTl hT (Nat.le_trans p1 (by decide)) (Nat.le_trans hl (by decide)) (by rw[m8,List.length_map];omega)
    generalize jX (T.headD 0) T.tail=p at *
    have ls:(fA p).length=p.length:=List.length_map ..
    have lx:(g7 (ps++[p])).length=(g7 ps).length+p.length:=by rw[qT,List.length_append,ls]
    have lT:(e7 (T.headD 0) T.tail).length≤1000:=by
     unfold e7 fW
     have:T.tail.length≤1000:=by rw[List.length_tail];omega
     split
     ·split
      ·exact this
      ·exact this
      ·rw[List.length_tail];omega
     ·exact this
    exact match t with
     |.mk fo' cw' hf' hc' hx=>by
      have q:=ih (ps++[p]) (e7 (T.headD 0) T.tail) fo' cw' (by omega) (fun x hx=>(List.mem_append.mp hx).elim (hps x) fun y=>by rw[List.mem_singleton.mp y];exact hm) (by omega) (by rw[List.length_append];show ps.length+1≤_;omega) hf' hc' (fun x hx=>hT x (List.mem_of_mem_tail (FR x hx))) lT
      have ep:m8 (ps++[p])=m8 ps++[.lst (aF p)]:=List.map_append
      rw[ep,qT]at q
      exact match q with
       |.mk m ps' T' fo2 cw2 w a b c d e=>.mk (m+1) ps' T' fo2 cw2 (.turn h hx rfl .id w) a b c d e
   cases T with
   |nil=>cases ps with
    |nil=>exact turn (NI z hb e)
    |cons p r=>exact .mk 1 (p::r) [] fo cw (.stop (NJ z hb e (fI (m:=200) (by rw[List.length_map,List.length_map];have:r.length+1≤(g7 (p::r)).length:=hn;omega) rfl))) hps hl hn hf hc
   |cons a T=>exact turn (NH z hb e (fI (m:=1000) (by rw[List.length_map,List.length_map];exact hTl) rfl))
  ·have e:kG (Int.ofNat (g7 ps).length) 50=false:=by rw[← f8];exact decide_eq_false (by show ¬ ((g7 ps).length:Int)<50;omega)
   exact .mk 1 ps T fo cw (.stop (FO z hb e)) hps hl hn hf hc
end
end
section
noncomputable def FU:Nm:=[99,117,116]
noncomputable def RC:Nm:=[100,117,101]
noncomputable def cV (es:List b9):List Item:=match es.getLast? with
 |some e=>e.2
 |none=>[]
noncomputable def oJ:List Item→List (List b9)→Nat→List Item
 |row,[],_=>row
 |row,p::ps,c=>match c with
  |0=>oJ row ps 0
  |c+1=>oJ (bD row (cV (p.take (c+1)))) ps (c+1 - (p.take (c+1)).length)
noncomputable def nR:Fn:=kL k8 [42] []
noncomputable def uN:ForI:=vR (nW nR.body 1)
noncomputable abbrev DU (Y:List V)(i:Int)(X:List V)(eo:List (Nm×V)):List O:=[.lst Y,.fr ([(iE,.ref 0),(FU,.dat (.int i)),(RC,.ref 2)]++eo),.lst X]
noncomputable abbrev wR (Y:List V)(i:Int)(X:List V)(eo:List (Nm×V))(S:List V):List O:=DU Y i X eo++[.lst S]
noncomputable def TX (a:D):List (Nm×V):=[(aV,.dat a)]
noncomputable def GZ (a b:D):List (Nm×V):=[(aV,.dat a),(qF,.dat b)]
noncomputable def u0 (a:D):List (Nm×V):=[(aV,.dat a),(qF,.ref 3)]
section
variable (z:c8){Y X X' S:List V}{i:Int}{a it:D}{ds its:List D}
noncomputable abbrev hM (ds:List D)(i:Int):List V:=cut (dl ds) none (some i)
theorem NK {eo:List (Nm×V)}:RX z.c nR.names 3 ⟨1,[]⟩ (DU Y 0 X eo) uN.b .next (DU Y 0 X eo):=z.useX (hs:=[]) (g:=true) rfl trivial (by kernel_rfl)
theorem Ar (hi:kG 0 i=true)(h1:Nat.ble (dl ds).length lim=true)(h2:Nat.ble (hM ds i).length lim=true)(hO:bZ z.c 3 (wR Y i X (u0 (.lst ds)) (hM ds i)) getItem z.c.VT (.ref 3) (.dat (.int (-1))) (.dat (.tup [it,.lst its])) (wR Y i X (u0 (.lst ds)) (hM ds i)))
  (hc:CallOk z.c 1 846 [.ref 2,.dat (.lst its)] (wR Y i X (u0 (.lst ds)) (hM ds i)) (.dat .non) (wR Y i X' (u0 (.lst ds)) (hM ds i))):RX z.c nR.names 3 ⟨1,[]⟩ (DU Y i X (TX (.lst ds))) uN.b .next (wR Y (i-Int.ofNat (hM ds i).length) X' (u0 (.lst ds)) (hM ds i)):=
 z.useX (hs:=[.tst 1329011018 true,.itm 1331026034 (.dat (.tup [it,.lst its])),.cll 846 1 (.dat .non) (wR Y i X' (u0 (.lst ds)) (hM ds i))]) (g:=cg [(true,Nat.ble (hM ds i).length lim),(true,Nat.ble (dl ds).length lim),(true,kG 0 i)]) (aA h2 (aA h1 (aA hi aH))) (an hc (an hO trivial)) (by kernel_rfl)
theorem As (hi:kG 0 i=true)(h1:Nat.ble (dl ds).length lim=true)(h2:Nat.ble (hM ds i).length lim=true)(hO:bZ z.c 3 (wR Y i X (u0 (.lst ds)) (hM ds i)) getItem z.c.VT (.ref 3) (.dat (.int (-1))) (.dat (.tup [it,.lst its])) (wR Y i X (u0 (.lst ds)) (hM ds i)))
  (hc:CallOk z.c 1 846 [.ref 2,.dat (.lst its)] (wR Y i X (u0 (.lst ds)) (hM ds i)) (.dat .non) (wR Y i X' (u0 (.lst ds)) (hM ds i))):RX z.c nR.names 3 ⟨1,[]⟩ (DU Y i X (GZ (.lst ds) a)) uN.b .next (wR Y (i-Int.ofNat (hM ds i).length) X' (u0 (.lst ds)) (hM ds i)):=
 z.useX (hs:=[.tst 1329011018 true,.itm 1331026034 (.dat (.tup [it,.lst its])),.cll 846 1 (.dat .non) (wR Y i X' (u0 (.lst ds)) (hM ds i))]) (g:=cg [(true,Nat.ble (hM ds i).length lim),(true,Nat.ble (dl ds).length lim),(true,kG 0 i)]) (aA h2 (aA h1 (aA hi aH))) (an hc (an hO trivial)) (by kernel_rfl)
noncomputable abbrev s3:List Nat:=[0,1,2]
theorem NM {YD XD bs:List D}:Gc 3 (wR (dl YD) i (dl XD) (u0 a) (dl bs)) (DU (dl YD) i (dl XD) (GZ a (.lst bs))):=by
 have a0:=cP (cA s3) YD
 have b0:=cP (cA s3) XD
 have a1:=cF (kr s3) YD
 have b1:=cF (kr s3) XD
 have a2:=sG (sb 3 (.lst bs)) id YD
 have b2:=sG (sb 3 (.lst bs)) id XD
 have f:g9 3 (wR (dl YD) i (dl XD) (u0 a) (dl bs))=some (.lst bs):=dX rfl
 refine .fold (fz:=[3]) (τ:=[]) (v:=.dat .non) ?_
 show((g9 3 _).bind _).bind _=_
 rw[f]
 generalize dl YD=Y at *
 generalize dl XD=X at *
 generalize dl bs=E at *
 have e2:((DU Y i X (u0 a)++[O.gone]).map (O.mp (sb 3 (.lst bs)) id))=DU (Y.map (V.mp (sb 3 (.lst bs)) id)) i (X.map (V.mp (sb 3 (.lst bs)) id)) (GZ a (.lst bs))++[O.gone]:=by kernel_rfl
 rw[a2,b2]at e2
 show rN 3 [] (.dat .non) ((DU Y i X (u0 a)++[O.gone]).map (O.mp (sb 3 (.lst bs)) id))=_
 rw[e2]
 have e3:cL s3 (DU Y i X (GZ a (.lst bs))++[O.gone])=(Y.all (V.cl (cA s3))&&(X.all (V.cl (cA s3))&&true)):=by kernel_rfl
 rw[a0,b0]at e3
 have e4:kept s3 (DU Y i X (GZ a (.lst bs))++[O.gone])=DU (Y.map (V.ren (kr s3))) i (X.map (V.ren (kr s3))) (GZ a (.lst bs)):=by kernel_rfl
 rw[a1,b1]at e4
 show(match true&&(true&&cL s3 (DU Y i X (GZ a (.lst bs))++[O.gone]))with|true=>some (V.dat .non,kept s3 (DU Y i X (GZ a (.lst bs))++[O.gone]))|false=>none)=_
 rw[e3,e4];rfl
noncomputable def rD (row:List Item):List D:=row.map Item.toD
theorem zV (row:List Item):bJ row=dl (rD row):=(List.map_map ..).symm
theorem zW:∀ (more row:List Item),eL (bD row more)=eL row+eL more∧(bD row more).length≤row.length+more.length
 | [],row=>⟨rfl,Nat.le_refl _⟩
 |x::r,row=>by
  have q:=zW r (eU row x)
  have w:=v7 row x
  exact⟨by show eL (bD (eU row x) r)=eL row+(x.len+eL r);omega,by show(bD (eU row x) r).length≤row.length+(r.length+1);omega⟩
theorem uO {α:Type}(xs:List α)(n:Nat):cut xs none (some (Int.ofNat n))=xs.take n:=by
 show(xs.drop 0).take (mn n xs.length-0)=_
 rw[nU,List.drop_zero,Nat.sub_zero,← List.take_eq_take_min]
theorem Au (p:List b9)(n:Nat):hM (aF p) (Int.ofNat n)=dl (aF (p.take n)):=by
 unfold hM
 rw[uO]
 show((p.map oF).map V.dat).take n=((p.take n).map oF).map V.dat
 rw[List.map_take,List.map_take]
structure PieceS (p:List b9):Prop where
 ne:0<p.length
 le:p.length≤100
 sm:∀ k,(cV (p.take (k+1))).length≤500∧eL (cV (p.take (k+1)))≤500
theorem FW {es:List b9}(h:0<es.length):∃ e,cV es=e.2∧rE (dl (aF es)) (-1)=some (.dat (oF e)):=by
 rcases List.eq_nil_or_concat es with rfl|⟨i,e,rfl⟩
 ·exact absurd h (Nat.lt_irrefl 0)
 ·refine⟨e,by unfold cV;rw[List.concat_eq_append,List.getLast?_concat],?_⟩
  rw[List.concat_eq_append,eC]
  unfold rE
  rw[List.length_append,show([V.dat (oF e)]:List V).length=1 from rfl,v8]
  show(dl (aF i)++[V.dat (oF e)])[(dl (aF i)).length]? =_
  exact List.getElem?_concat_length
noncomputable abbrev DI (ps:List (List b9))(c:Nat)(row:List Item)(eo:List (Nm×V)):List O:=DU (dl (m8 ps)) (Int.ofNat c) (dl (rD row)) eo
noncomputable abbrev Ub (eo:List (Nm×V)):Prop:=eo=[]∨(∃ a,eo=TX a)∨∃ a b,eo=GZ a b
noncomputable def NN (ps:List (List b9))(cut:Nat)(k:Nat)(hp:List O):Prop:=∃ row c eo,hp=DI ps c row eo∧Ub eo∧oJ row (ps.drop k) c=oJ [] ps cut∧row.length≤500*k∧eL row≤500*k
theorem FX {ps:List (List b9)}{ct:Nat}(hn:ps.length≤150)(hps:∀ p∈ps,PieceS p)(k:Nat)(y:V)(hp:List O)(hk:(dl (m8 ps))[k]? =some y)(q:NN ps ct k hp):
  ∃ hp1 hp2,RG z.c nR.names 3 ⟨1,[]⟩ hp uN.g y hp1∧RX z.c nR.names 3 ⟨1,[]⟩ hp1 uN.b .next hp2∧NN ps ct (k+1) hp2:=by
 obtain⟨row,c,eo,rfl,he,hd,l1,l2⟩:=q
 rw[sH,m8,List.getElem?_map]at hk
 cases hp:ps[k]? with
 |none=>rw[hp]at hk;cases hk
 |some p=>
 rw[hp]at hk
 cases hk
 have lt:k<ps.length:=(List.getElem?_eq_some_iff.mp hp).1
 have P:=hps p (List.mem_of_getElem? hp)
 have hdr:ps.drop k=p::ps.drop (k+1):=by rw[List.drop_eq_getElem_cons lt,(List.getElem?_eq_some_iff.mp hp).2]
 rw[hdr]at hd
 have b:∃ eo2',(eo2'=TX (.lst (aF p))∨∃ b,eo2'=GZ (.lst (aF p)) b)∧RG z.c nR.names 3 ⟨1,[]⟩ (DI ps c row eo) uN.g (.dat (.lst (aF p))) (DI ps c row eo2'):=by
  rcases he with rfl|⟨a,rfl⟩|⟨a,b,rfl⟩
  ·exact⟨_,.inl rfl,cM (by kernel_rfl) (by kernel_rfl)⟩
  ·exact⟨_,.inl rfl,cM (by kernel_rfl) (by kernel_rfl)⟩
  ·exact⟨_,.inr ⟨b,rfl⟩,cM (by kernel_rfl) (by kernel_rfl)⟩
 obtain⟨eo',he',b⟩:=b
 cases c with
 |zero=>exact⟨_,_,b,NK z,row,0,eo',rfl,he'.elim (fun h=>.inr (.inl ⟨_,h⟩)) (fun⟨_,h⟩=>.inr (.inr ⟨_,_,h⟩)),hd,by omega,by omega⟩
 |succ c=>
  have tl:(p.take (c+1)).length=min (c+1) p.length:=List.length_take
  have np:0 < (p.take (c+1)).length:=by have:=P.ne;omega
  obtain⟨e,e1,e2⟩:=FW np
  have hd:oJ (bD row (cV (p.take (c+1)))) (ps.drop (k+1)) (c+1 - (p.take (c+1)).length)=oJ [] ps ct:=hd
  have ed:=Au p (c+1)
  have ei:Int.ofNat (c+1)-Int.ofNat (hM (aF p) (Int.ofNat (c+1))).length=Int.ofNat (c+1 - (p.take (c+1)).length):=by
   rw[ed,cG,tl]
   show((c+1:Nat):Int) - ((min (c+1) p.length:Nat):Int)=((c+1-min (c+1) p.length:Nat):Int)
   omega
  have g:=NM (YD:=m8 ps) (XD:=rD (bD row (cV (p.take (c+1))))) (bs:=aF (p.take (c+1))) (i:=Int.ofNat (c+1 - (p.take (c+1)).length)) (a:=.lst (aF p))
  have sm:=P.sm c
  have aa:=zW (cV (p.take (c+1))) row
  have ad:=Qa z (row:=row) (more:=cV (p.take (c+1))) (.mk (by omega) (by omega))
  rw[zV,zV]at ad
  have hc:=eS (c:=z.c) (hp:=wR (dl (m8 ps)) (Int.ofNat (c+1)) (dl (rD row)) (u0 (.lst (aF p))) (hM (aF p) (Int.ofNat (c+1)))) (l:=2) (ds:=[.lst (rD (cV (p.take (c+1))))]) rfl ad
  rw[← ed,← ei]at g
  rw[← ed]at e2
  have l3:Nat.ble (dl (aF p)).length lim=true:=fI (m:=100) (by rw[cG];exact P.le) rfl
  have l4:Nat.ble (hM (aF p) (Int.ofNat (c+1))).length lim=true:=fI (m:=100) (Nat.le_trans (hI ..) (by rw[cG];exact P.le)) rfl
  rw[ei]at g
  generalize cV (p.take (c+1))=m at *
  subst e1
  have hx:RX z.c nR.names 3 ⟨1,[]⟩ (DI ps (c+1) row eo') uN.b .next (wR (dl (m8 ps)) (Int.ofNat (c+1 - (p.take (c+1)).length)) (dl (rD (bD row e.2))) (u0 (.lst (aF p))) (hM (aF p) (Int.ofNat (c+1)))):=by
   rw[← ei]
   rcases he' with rfl|⟨b,rfl⟩
   ·exact Ar z rfl l3 l4 (nZ rfl e2 rfl) hc
   ·exact As z rfl l3 l4 (nZ rfl e2 rfl) hc
  exact⟨_,_,b,mT hx g,_,_,_,rfl,.inr (.inr ⟨_,_,rfl⟩),hd,by omega,by omega⟩
theorem JC (ps:List (List b9)):(dl (m8 ps)).length=ps.length:=(iT _).trans (List.length_map ..)
theorem FY {YD XD:List D}{eo:List (Nm×V)}:g5 1 [2] [] (.ref 2) (DU (dl YD) i (dl XD) eo)=some (.dat (.lst XD),[.lst (dl YD)]):=EY (l:=1) (dX rfl)
theorem RH {ps:List (List b9)}{ct:Nat}(hn:ps.length≤150)(hps:∀ p∈ps,PieceS p):CallOk z.c 4 900 [.ref 0,.dat (.int (Int.ofNat ct))] [.lst (dl (m8 ps))] (.dat (.lst (rD (oJ [] ps ct)))) [.lst (dl (m8 ps))]:=by
 have h1:RE z.c nR.names 3 ⟨1,[]⟩ (DI ps ct [] []) uN.i (.ref 0) (DI ps ct [] []):=z.useE (hs:=[]) (g:=true) rfl trivial (by kernel_rfl)
 obtain⟨hp',q,row,c,eo,rfl,-,hd,-,-⟩:=pB (c:=z.c) (base:=3) (v:=.ref 0) (all:=dl (m8 ps)) (NN ps ct) (fun k hp p=>p.elim fun row q=>q.elim fun c q=>q.elim fun eo q=>q.1▸rfl) (FX z hn hps) (dl (m8 ps)).length 0 (DI ps ct [] []) (Nat.zero_add _) ⟨[],ct,[],rfl,.inl rfl,rfl,Nat.zero_le _,Nat.zero_le _⟩
 rw[JC,List.drop_length]at hd
 have hd:row=_:=hd
 have h2:RS z.c nR.names 3 ⟨1,[]⟩ (DI ps ct [] []) uN.s .next (DI ps c row eo):=kJ (fun env x=>dA (by kernel_rfl) env x) h1 rfl rfl q
 have b:RX z.c nR.names 3 ⟨1,[]⟩ [.lst (dl (m8 ps)),.fr [(iE,.ref 0),(FU,.dat (.int (Int.ofNat ct)))]] nR.body (.ret (.ref 2)) (DI ps c row eo):=z.useX (hs:=[.stm 1328 .next (DI ps c row eo)]) (g:=true) rfl (an h2 trivial) (by kernel_rfl)
 have h3:CallOk z.c 4 900 [.ref 0,.dat (.int (Int.ofNat ct))] [.lst (dl (m8 ps))] (.ref 2) (DI ps c row eo):=iL (F:=nR) (by kernel_rfl) (by kernel_rfl) (by kernel_rfl) (by kernel_rfl) b
 rw[← hd]
 exact dF h3 FY
end
end
section
noncomputable def Av (n:Int):Nat:=(Int.fmod n 5040).toNat
theorem FZ (n:Int):Int.fmod n 5040=Int.ofNat (Av n):=(Int.toNat_of_nonneg (Int.fmod_nonneg_of_pos n (by decide))).symm
theorem NO (n:Int):Av n<5040:=by
 have h:=Int.fmod_lt_of_pos n (b:=5040) (by decide)
 rw[FZ]at h
 exact Int.ofNat_lt.mp h
noncomputable def lX:AsgI:=Mf (nW cH.body 0)
noncomputable def f6 (L:List Int):List D:=L.map .int
noncomputable abbrev Ty (sD:D)(S:List V):List O:=[.fr [(dJ,.dat sD)],.cel none,.lst S]
noncomputable abbrev RI (sD:D)(S X:List V)(eo:List (Nm×V)):List O:=[.fr [(dJ,.dat sD)],.cel none,.lst S,.lst X,.fr eo]
noncomputable abbrev Ga (sD:D)(S X:List V):List O:=[.fr [(dJ,.dat sD),(dP,.ref 3)],.cel none,.lst S,.lst X,.gone]
section
variable (z:c8){sD s0:D}{L:List Int}
noncomputable def NP (sD:D)(L:List Int)(k:Nat)(hp:List O):Prop:=∃ eo,(eo=[]∨∃ v,eo=[(kC,v)])∧hp=RI sD (dl (f6 L)) (dl (bL ((L.take k).map Av))) eo
theorem Fa (hL:L.length≤1000)(k:Nat)(y:V)(hp:List O)(hk:(dl (f6 L))[k]? =some y)(q:NP sD L k hp):
  ∃ hp1 hp2 xs v,RG z.c (fQ cH.names lX.c.s.names) 17 ⟨4,eX FL.cs (cW lX.c.s.names)⟩ hp lX.c.t y hp1∧RE z.c (fQ cH.names lX.c.s.names) 17 ⟨4,eX FL.cs (cW lX.c.s.names)⟩ hp1 lX.c.e v hp2∧hp2[3]?.bind O.lstE=some xs∧Nat.ble xs.length lim=true∧NP sD L (k+1) (hp2.set 3 (.lst (xs++[v]))):=by
 obtain⟨eo,he,rfl⟩:=q
 rw[sH,f6,List.getElem?_map]at hk
 cases hi:L[k]? with
 |none=>rw[hi]at hk;cases hk
 |some i=>
 rw[hi]at hk
 cases hk
 have hl:Nat.ble (dl (bL ((L.take k).map Av))).length lim=true:=fI (m:=1000) (by rw[iT,bL,List.length_map,List.length_map,List.length_take];omega) rfl
 refine⟨RI sD (dl (f6 L)) (dl (bL ((L.take k).map Av))) [(kC,.dat (.int i))],RI sD (dl (f6 L)) (dl (bL ((L.take k).map Av))) [(kC,.dat (.int i))],dl (bL ((L.take k).map Av)),.dat (.int (Int.fmod i 5040)),?_,?_,rfl,hl,[(kC,.dat (.int i))],.inr ⟨_,rfl⟩,?_⟩
 ·rcases he with rfl|⟨v,rfl⟩
  ·exact cM (by kernel_rfl) (by kernel_rfl)
  ·exact cM (by kernel_rfl) (by kernel_rfl)
 ·generalize dl (bL ((L.take k).map Av))=X at *
  generalize dl (f6 L)=S at *
  exact z.useE (hs:=[]) (g:=true) rfl trivial (by kernel_rfl)
 ·rw[lC hi,List.map_append]
  show _=RI sD (dl (f6 L)) (dl (((L.take k).map Av++[Av i]).map _)) _
  rw[List.map_append,kS,FZ];rfl
theorem JD (hL:L.length≤1000)(h1:RE z.c cH.names 17 FL [.fr [(dJ,.dat sD)],.cel none] lX.c.i (.ref 2) (Ty sD (dl (f6 L)))):RS z.c cH.names 17 FL [.fr [(dJ,.dat sD)],.cel none] lX.s .next (Ga sD (dl (f6 L)) (dl (bL (L.map Av)))):=by
 obtain⟨hp',q,eo,he,rfl⟩:=jS (v:=.ref 2) (all:=dl (f6 L)) (NP sD L) (fun k hp p=>p.elim fun eo q=>q.2▸rfl) (Fa z hL) (dl (f6 L)).length 0 (RI sD (dl (f6 L)) [] []) (Nat.zero_add _) ⟨[],.inl rfl,rfl⟩
 rw[iT,show(f6 L).length=L.length from List.length_map ..,List.take_length]at q
 generalize dl (f6 L)=S at *
 generalize dl (bL (L.map Av))=X at *
 exact nI (y:=lX.y) (px:=lX.px) (spos:=lX.p) (pos:=lX.c.p) (hp3:=[.fr [(dJ,.dat sD),(dP,.ref 3)],.cel none,.lst S,.lst X,.fr eo]) (fR (by kernel_rfl)) h1 rfl rfl q (by kernel_rfl) (by kernel_rfl) (by kernel_rfl) rfl
theorem Fb (ns:List Int)(n:Nat):cut (dl (f6 ns)) none (some (Int.ofNat n))=dl (f6 (ns.take n)):=by
 rw[uO]
 show((ns.map Tk.D.int).map V.dat).take n=((ns.take n).map Tk.D.int).map V.dat
 rw[List.map_take,List.map_take]
noncomputable def g8 (ns:List Int):List Nat:=(ns.take 40).map Av
noncomputable abbrev LB (sD s0:D)(S X:List V):List O:=[.fr [(dJ,.dat sD),(dP,.ref 3),(m1,.dat s0),(cN,.dat (.str [])),(iE,.ref 5)],.cel none,.lst S,.lst X,.gone,.lst [],.tup [.ref 5,.dat (.str [])]]
theorem NQ:Hq cH.names (nW cH.body 2)=Hr (Str.ofString "pieces") (Str.ofString "text"):=by kernel_rfl
theorem RJ {ns:List Int}(hn:ns.length≤1000):RX z.c cH.names 17 FL [.fr [(dJ,.dat (.lst (f6 ns)))],.cel none] (cH.body.take 3) .next (LW (.lst (f6 ns)) (.int (Int.ofNat ((g8 ns).headD 0))) [] [] none (g8 ns).tail []):=by
 have hi:=Fb ns 40
 have hl:Nat.ble (dl (f6 ns)).length lim=true:=fI (m:=1000) (by rw[iT,f6,List.length_map];exact hn) rfl
 have h1:RE z.c cH.names 17 FL [.fr [(dJ,.dat (.lst (f6 ns)))],.cel none] lX.c.i (.ref 2) (Ty (.lst (f6 ns)) (cut (dl (f6 ns)) none (some (Int.ofNat 40)))):=z.useE (hs:=[]) (g:=cg [(true,Nat.ble (dl (f6 ns)).length lim)]) (aA hl aH) trivial (by kernel_rfl)
 rw[hi]at h1
 have h2:=JD z (L:=ns.take 40) (by rw[List.length_take];omega) h1
 have hT:(g8 ns).length≤1000:=by unfold g8;rw[List.length_map,List.length_take];omega
 have h3:=eS (c:=z.c) (hp:=Ga (.lst (f6 ns)) (dl (f6 (ns.take 40))) (dl (bL (g8 ns)))) (l:=3) (ds:=[]) rfl (x0 z hT)
 change RS z.c cH.names 17 FL [.fr [(dJ,.dat (.lst (f6 ns)))],.cel none] lX.s .next (Ga (.lst (f6 ns)) (dl (f6 (ns.take 40))) (dl (bL (g8 ns))))at h2
 generalize g8 ns=T at *
 have a1:=cF (kr [0,1,3,5]) (bL T.tail)
 have a0:=cP (cA [0,1,3,5]) (bL T.tail)
 refine mT (hp1:=LB (.lst (f6 ns)) (.int (Int.ofNat (T.headD 0))) (dl (f6 (ns.take 40))) (dl (bL T.tail))) ?_ ?_
 ·change CallOk z.c 1 822 [.ref 3] (Ga (.lst (f6 ns)) (dl (f6 (ns.take 40))) (dl (bL T))) (.dat (.int (Int.ofNat (T.headD 0)))) (Ga (.lst (f6 ns)) (dl (f6 (ns.take 40))) (dl (bL T.tail)))at h3
  generalize dl (f6 (ns.take 40))=S at *
  generalize dl (bL T)=X at *
  generalize dl (bL T.tail)=X' at *
  exact z.useX (hs:=[.stm 1353 .next (Ga (.lst (f6 ns)) S X),.cll 822 1 (.dat (.int (Int.ofNat (T.headD 0)))) (Ga (.lst (f6 ns)) S X')]) (g:=true)
   (ob:=Hq cH.names (nW cH.body 2)=Hr (Str.ofString "pieces") (Str.ofString "text")∧CallOk z.c 1 822 [.ref 3] (Ga (.lst (f6 ns)) S X) (.dat (.int (Int.ofNat (T.headD 0)))) (Ga (.lst (f6 ns)) S X')∧RS z.c cH.names 17 FL [.fr [(dJ,.dat (.lst (f6 ns)))],.cel none] lX.s .next (Ga (.lst (f6 ns)) S X)∧True) rfl ⟨NQ,h3,h2,trivial⟩ (by kernel_rfl)
 ·show Gc 2 _ (gX (.lst (f6 ns)) (.int (Int.ofNat (T.headD 0))) [] [] none (dl (bL T.tail)) [])
  generalize dl (f6 (ns.take 40))=S at *
  generalize dl (bL T.tail)=X at *
  have e1:cL [0,1,3,5] (LB (.lst (f6 ns)) (.int (Int.ofNat (T.headD 0))) S X)=(X.all (V.cl (cA [0,1,3,5]))&&true):=by kernel_rfl
  have e2:kept [0,1,3,5] (LB (.lst (f6 ns)) (.int (Int.ofNat (T.headD 0))) S X)=gX (.lst (f6 ns)) (.int (Int.ofNat (T.headD 0))) [] [] none (X.map (V.ren (kr [0,1,3,5]))) []:=by kernel_rfl
  exact mR (τ:=[3,5]) (by kernel_rfl) (e1.trans (by rw[a0];rfl)) (e2.trans (by rw[a1]))
end
end
section
noncomputable abbrev LE (sD:D)(a:Nat)(t:Nm)(fo:List (Nm×V))(cw:Option V)(X Y:List V)(c:Nat):List O:=[.fr ([(dJ,.dat sD),(dP,.ref 2),(m1,.dat (.int (Int.ofNat a))),(cN,.dat (.str t)),(iE,.ref 3)]++fo++[(FU,.dat (.int (Int.ofNat c)))]),.cel cw,.lst X,.lst Y]
noncomputable abbrev JE (t:Nm)(c:Nat):V:=.dat (.str (cut t none (some (Int.ofNat c))))
section
variable (z:c8){sD:D}{a c:Nat}{t:Nm}{cw:Option V}{X Y:List V}{A B:List D}
theorem RK (ha:(kH z.c.P 8 (.lst A) (.lst A)).yes=true)(hb:(kH z.c.P 8 (.lst B) (.lst B)).yes=true)(hl:Nat.ble t.length lim=true)(h1:(V.dat (.int (Int.fmod (Int.ofNat a) (Int.ofNat t.length+1))):V)=.dat (.int (Int.ofNat (a % (t.length+1)))))(h2:(V.dat (.int (Int.ofNat t.length-Int.ofNat (a % (t.length+1)))):V)=.dat (.int (Int.ofNat c)))
  (r1:CallOk z.c 14 907 [JE t c] [] (.dat (.lst A)) [])(d1:CallOk z.c 4 900 [.ref 3,.dat (.int (Int.ofNat c))] (LE sD a t ([]) cw X Y c) (.dat (.lst A)) (LE sD a t ([]) cw X Y c))(r2:CallOk z.c 14 907 [.dat (.str t)] [] (.dat (.lst B)) [])(d2:CallOk z.c 4 900 [.ref 3,.dat (.int (Int.ofNat t.length))] (LE sD a t ([]) cw X Y c) (.dat (.lst B)) (LE sD a t ([]) cw X Y c)):
  RX z.c cH.names 17 FL (gX sD (.int (Int.ofNat a)) t ([]) cw X Y) (cH.body.drop 4) (.ret (.dat (.boo true))) (LE sD a t ([]) cw X Y c):=
 z.useX (hs:=[.val 1370022045 (.dat (.int (Int.ofNat (a % (t.length+1))))),.val 1370010045 (.dat (.int (Int.ofNat c))),.cal 907 14 [] (.dat (.lst A)) [],.cll 900 4 (.dat (.lst A)) (LE sD a t ([]) cw X Y c),.tst 1371011056 true,.cal 907 14 [] (.dat (.lst B)) [],.cll 900 4 (.dat (.lst B)) (LE sD a t ([]) cw X Y c)])
  (g:=cg [(true,(kH z.c.P 8 (.lst B) (.lst B)).yes),(true,Nat.ble t.length lim),(true,(kH z.c.P 8 (.lst A) (.lst A)).yes),(true,Nat.ble t.length lim),(true,Nat.ble t.length lim),(true,Nat.ble t.length lim)])
  (ob:=CallOk z.c 4 900 [.ref 3,.dat (.int (Int.ofNat t.length))] (LE sD a t ([]) cw X Y c) (.dat (.lst B)) (LE sD a t ([]) cw X Y c)∧CallOk z.c 14 907 [.dat (.str t)] [] (.dat (.lst B)) []∧CallOk z.c 4 900 [.ref 3,.dat (.int (Int.ofNat c))] (LE sD a t ([]) cw X Y c) (.dat (.lst A)) (LE sD a t ([]) cw X Y c)∧CallOk z.c 14 907 [JE t c] [] (.dat (.lst A)) []∧(V.dat (.int (Int.ofNat t.length-Int.ofNat (a % (t.length+1)))):V)=.dat (.int (Int.ofNat c))∧(V.dat (.int (Int.fmod (Int.ofNat a) (Int.ofNat t.length+1))):V)=.dat (.int (Int.ofNat (a % (t.length+1))))∧True)
  (aA hb (aA hl (aA ha (aA hl (aA hl (aA hl aH)))))) ⟨d2,r2,d1,r1,h2,h1,trivial⟩ (by kernel_rfl)
theorem RM {x y:V}(ha:(kH z.c.P 8 (.lst A) (.lst A)).yes=true)(hb:(kH z.c.P 8 (.lst B) (.lst B)).yes=true)(hl:Nat.ble t.length lim=true)(h1:(V.dat (.int (Int.fmod (Int.ofNat a) (Int.ofNat t.length+1))):V)=.dat (.int (Int.ofNat (a % (t.length+1)))))(h2:(V.dat (.int (Int.ofNat t.length-Int.ofNat (a % (t.length+1)))):V)=.dat (.int (Int.ofNat c)))
  (r1:CallOk z.c 14 907 [JE t c] [] (.dat (.lst A)) [])(d1:CallOk z.c 4 900 [.ref 3,.dat (.int (Int.ofNat c))] (LE sD a t ([(kC,x),(aV,y)]) cw X Y c) (.dat (.lst A)) (LE sD a t ([(kC,x),(aV,y)]) cw X Y c))(r2:CallOk z.c 14 907 [.dat (.str t)] [] (.dat (.lst B)) [])(d2:CallOk z.c 4 900 [.ref 3,.dat (.int (Int.ofNat t.length))] (LE sD a t ([(kC,x),(aV,y)]) cw X Y c) (.dat (.lst B)) (LE sD a t ([(kC,x),(aV,y)]) cw X Y c)):
  RX z.c cH.names 17 FL (gX sD (.int (Int.ofNat a)) t ([(kC,x),(aV,y)]) cw X Y) (cH.body.drop 4) (.ret (.dat (.boo true))) (LE sD a t ([(kC,x),(aV,y)]) cw X Y c):=
 z.useX (hs:=[.val 1370022045 (.dat (.int (Int.ofNat (a % (t.length+1))))),.val 1370010045 (.dat (.int (Int.ofNat c))),.cal 907 14 [] (.dat (.lst A)) [],.cll 900 4 (.dat (.lst A)) (LE sD a t ([(kC,x),(aV,y)]) cw X Y c),.tst 1371011056 true,.cal 907 14 [] (.dat (.lst B)) [],.cll 900 4 (.dat (.lst B)) (LE sD a t ([(kC,x),(aV,y)]) cw X Y c)])
  (g:=cg [(true,(kH z.c.P 8 (.lst B) (.lst B)).yes),(true,Nat.ble t.length lim),(true,(kH z.c.P 8 (.lst A) (.lst A)).yes),(true,Nat.ble t.length lim),(true,Nat.ble t.length lim),(true,Nat.ble t.length lim)])
  (ob:=CallOk z.c 4 900 [.ref 3,.dat (.int (Int.ofNat t.length))] (LE sD a t ([(kC,x),(aV,y)]) cw X Y c) (.dat (.lst B)) (LE sD a t ([(kC,x),(aV,y)]) cw X Y c)∧CallOk z.c 14 907 [.dat (.str t)] [] (.dat (.lst B)) []∧CallOk z.c 4 900 [.ref 3,.dat (.int (Int.ofNat c))] (LE sD a t ([(kC,x),(aV,y)]) cw X Y c) (.dat (.lst A)) (LE sD a t ([(kC,x),(aV,y)]) cw X Y c)∧CallOk z.c 14 907 [JE t c] [] (.dat (.lst A)) []∧(V.dat (.int (Int.ofNat t.length-Int.ofNat (a % (t.length+1)))):V)=.dat (.int (Int.ofNat c))∧(V.dat (.int (Int.fmod (Int.ofNat a) (Int.ofNat t.length+1))):V)=.dat (.int (Int.ofNat (a % (t.length+1))))∧True)
  (aA hb (aA hl (aA ha (aA hl (aA hl (aA hl aH)))))) ⟨d2,r2,d1,r1,h2,h1,trivial⟩ (by kernel_rfl)
theorem dS {p q:Prop}{x:Mb q}{f:q→Mb p}(h:x.yes=true)(k:∀ a,(f a).yes=true):(x.tkn f).yes=true:=match x,h with
 |.ok a,_=>k a
theorem JF {p:Prop}{b:Bool}{f:b=true→Mb p}(h:b=true)(k:∀ e,(f e).yes=true):(Mb.gvn b f).yes=true:=by
 subst h;exact k rfl
theorem wJ {R:D→D→Prop}{f:∀ a b,Mb (R a b)}:∀ xs:List D,(∀ x∈xs,(f x x).yes=true)→(Go f xs xs).yes=true
 | [],_=>rfl
 |x::xs,h=>dS (h x (.head _)) fun _=>dS (wJ xs fun y m=>h y (.tail _ m)) fun _=>rfl
theorem m9 {P:Params}(x:Nm):(kH P 6 (.str x) (.str x)).yes=true:=JF (oO x) fun _=>rfl
theorem zX {P:Params}:∀ x:Option Nm,(kH P 6 (j9 x) (j9 x)).yes=true
 |none=>rfl
 |some x=>m9 x
theorem JG {P:Params}:∀ b:Bool,(kH P 6 (.boo b) (.boo b)).yes=true
 |true=>rfl
 |false=>rfl
theorem uP {P:Params}(a b:Nm):(kH P 7 (.tup [.str a,.str b]) (.tup [.str a,.str b])).yes=true:=dS (dS (m9 a) fun _=>dS (dS (m9 b) fun _=>rfl) fun _=>rfl) fun _=>rfl
theorem Fc {P:Params}:∀ i:Item,(kH P 7 i.toD i.toD).yes=true
 |.text s=>uP _ s
 |.error s=>uP _ s
 |.note s=>uP _ s
 |.doc n p q k=>dS (dS (m9 _) fun _=>dS (dS (m9 n) fun _=>dS (dS (zX p) fun _=>dS (dS (zX q) fun _=>dS (dS (JG k) fun _=>rfl) fun _=>rfl) fun _=>rfl) fun _=>rfl) fun _=>rfl) fun _=>rfl
theorem pG {P:Params}(row:List Item):(kH P 8 (.lst (rD row)) (.lst (rD row))).yes=true:=dS (wJ _ fun x m=>(List.mem_map.mp m).elim fun i q=>q.2▸Fc i) fun _=>rfl
structure PlainW:Prop where
 sz:∀ p,rK p→PieceS p
 ch:∀ p,rK p→∀ c∈fA p,xO c
 row:∀ ps cut,(∀ p∈ps,rK p)→∃ k items,run k 304 (.dead .non) (md false ((g7 ps).take cut))=some items∧bD [] items=oJ [] ps cut∧items.length+eL items≤4 * ((g7 ps).take cut).length+4
theorem Fe (PW:PlainW):∀ ps:List (List b9),(∀ p∈ps,rK p)→∀ c∈g7 ps,xO c
 | [],_,_,h=>nomatch h
 |p::ps,hp,c,h=>(List.mem_append.mp h).elim (PW.ch p (hp p (.head _)) c) (Fe PW ps (fun q m=>hp q (.tail _ m)) c)
theorem JH (D:GenD z.K 268 gN gI.b)(PW:PlainW){ps:List (List b9)}{c:Nat}(hp:∀ p∈ps,rK p)(hl:(g7 ps).length≤150):CallOk z.c 14 907 [.dat (.str ((g7 ps).take c))] [] (.dat (.lst (rD (oJ [] ps c)))) []:=by
 obtain⟨k,items,e1,e2,e3⟩:=PW.row ps c hp
 have lt:((g7 ps).take c).length≤150:=by rw[List.length_take];omega
 rw[← e2]
 exact Qj z D (fun x m=>Fe PW ps hp x (List.mem_of_mem_take m)) (by omega) e1 (.mk (by show 0+eL items≤_;omega) (by show 0+items.length≤_;omega))
theorem JI (D:GenD z.K 268 gN gI.b)(PW:PlainW){ps:List (List b9)}{T:List Nat}{fo:List (Nm×V)}(hp:∀ p∈ps,rK p)(hl:(g7 ps).length≤150)(hn:ps.length≤(g7 ps).length)(hf:OH fo):∃ hp',RX z.c cH.names 17 FL (LW sD (.int (Int.ofNat a)) (g7 ps) fo cw T (m8 ps)) (cH.body.drop 4) (.ret (.dat (.boo true))) hp':=by
 have r:=fun c=>JH z D PW (c:=c) hp hl
 have hd:∀ c,CallOk z.c 4 900 [.ref 0,.dat (.int (Int.ofNat c))] [.lst (dl (m8 ps))] (.dat (.lst (rD (oJ [] ps c)))) [.lst (dl (m8 ps))]:=fun c=>RH z (ps:=ps) (ct:=c) (by omega) fun p m=>PW.sz p (hp p m)
 have d:∀ c c',CallOk z.c 4 900 [.ref 3,.dat (.int (Int.ofNat c))] (LE sD a (g7 ps) fo cw (dl (bL T)) (dl (m8 ps)) c') (.dat (.lst (rD (oJ [] ps c)))) (LE sD a (g7 ps) fo cw (dl (bL T)) (dl (m8 ps)) c'):=fun c c'=>eS (c:=z.c) (hp:=LE sD a (g7 ps) fo cw (dl (bL T)) (dl (m8 ps)) c') (l:=3) (ds:=[.int (Int.ofNat c)]) rfl (hd c)
 have hb:Nat.ble (g7 ps).length lim=true:=fI (m:=150) hl rfl
 have rf:=r (g7 ps).length
 rw[List.take_length]at rf
 generalize g7 ps=t at *
 have h1:(V.dat (.int (Int.fmod (Int.ofNat a) (Int.ofNat t.length+1))):V)=.dat (.int (Int.ofNat (a % (t.length+1)))):=eD a (t.length+1)
 have hm:a % (t.length+1)<t.length+1:=Nat.mod_lt _ (Nat.succ_pos _)
 have h2:(V.dat (.int (Int.ofNat t.length-Int.ofNat (a % (t.length+1)))):V)=.dat (.int (Int.ofNat (t.length-a % (t.length+1)))):=congrArg (fun i=>V.dat (.int i)) (by show(t.length:Int) - ((a % (t.length+1):Nat):Int)=((t.length-a % (t.length+1):Nat):Int);omega)
 generalize t.length-a % (t.length+1)=c at *
 have rc:=r c
 rw[← uO]at rc
 rcases hf with rfl|⟨x,y,rfl⟩
 ·exact⟨_,RK z (pG _) (pG _) hb h1 h2 rc (d c c) rf (d _ c)⟩
 ·exact⟨_,RM z (pG _) (pG _) hb h1 h2 rc (d c c) rf (d _ c)⟩
theorem Ff (ns:List Int):∀ x∈g8 ns,x<5040:=fun x hx=>(List.mem_map.mp hx).elim fun i q=>q.2▸NO i
theorem RN (D:GenD z.K 268 gN gI.b)(PW:PlainW){ns:List Int}(hn:ns.length≤1000):CallOk z.c 18 912 [.dat (.lst (f6 ns))] [] (.dat (.boo true)) []:=by
 have ha:=RJ z hn
 have hT:(g8 ns).tail.length≤1000:=by unfold g8;rw[List.length_tail,List.length_map,List.length_take];omega
 have hb:=FS z (sD:=.lst (f6 ns)) (s0:=.int (Int.ofNat ((g8 ns).headD 0))) (fun p m=>⟨(PW.sz p m).ne,(PW.sz p m).le⟩) 50 [] (g8 ns).tail [] none (Nat.le_refl _) (fun _ h=>nomatch h) (Nat.zero_le _) (Nat.le_refl _) (.inl rfl) (.inl rfl) (fun x m=>Ff ns x (List.mem_of_mem_tail m)) hT
 cases hb with
 |mk m ps T fo cw w hps hl hn hf hc=>
 obtain⟨hp',e⟩:=JI z (sD:=.lst (f6 ns)) (a:=(g8 ns).headD 0) (cw:=cw) (T:=T) D PW hps hl hn hf
 have s:RS z.c cH.names 17 FL (LW (.lst (f6 ns)) (.int (Int.ofNat ((g8 ns).headD 0))) [] [] none (g8 ns).tail []) iF.s .next (LW (.lst (f6 ns)) (.int (Int.ofNat ((g8 ns).headD 0))) (g7 ps) fo cw T (m8 ps)):=tF w
 have b:=uE ha (k7 s e)
 have eb:cH.body.take 3++iF.s::cH.body.drop 4=cH.body:=by kernel_rfl
 rw[eb]at b
 have h3:CallOk z.c 18 912 [.dat (.lst (f6 ns))] [] (.dat (.boo true)) hp':=iL (F:=cH) (by kernel_rfl) (by kernel_rfl) (by kernel_rfl) (by kernel_rfl) b
 exact dF h3 (fz:=[]) (τ:=[]) rfl
end
end
section
noncomputable def sR (l:List Item):Nat:=l.length+eL l
theorem nA (a b:List Item):sR (a++b)=sR a+sR b:=by unfold sR;rw[List.length_append,jC];omega
theorem nB (row:List Item)(s t:Nm):eU (eU row (.text s)) (.text t)=eU row (.text (s++t)):=match row,jQ row with
 |_,.none=>rfl
 |_,.some a l=>by
  rw[eP,eP]
  cases l with
  |text u=>exact(eP _ _ a).trans (congrArg (fun w=>a++[.text w]) (List.append_assoc u s t))
  |_=>exact(congrArg (fun w=>eU w (.text t)) (List.append_assoc a [_] [_]).symm).trans ((eP _ _ _).trans (List.append_assoc a _ _))
theorem wK (row Y:List Item)(it:Item):bD row (eU Y it)=eU (bD row Y) it:=match Y,jQ Y with
 |_,.none=>rfl
 |_,.some a l=>by
  rw[eP,fG,fG]
  cases it with
  |text s=>cases l with
   |text u=>exact(nB _ u s).symm
   |_=>rfl
  |_=>rfl
theorem iY (row:List Item):∀ X Y:List Item,bD row (bD Y X)=bD (bD row Y) X
 | [],_=>rfl
 |x::X,Y=>(iY row X (eU Y x)).trans (congrArg (fun w=>bD w X) (wK row Y x))
noncomputable def Eqv (a b:List Item):Prop:=∀ row,bD row a=bD row b
theorem wL {a b:List Item}(h:bD [] a=bD [] b):Eqv a b:=fun row=>(iY row a []).symm.trans ((congrArg (bD row) h).trans (iY row b []))
theorem Eqv.app {a b c d:List Item}(h:Eqv a b)(h2:Eqv c d):Eqv (a++c) (b++d):=fun row=>by rw[fG,fG,h,h2]
noncomputable def stp (st:Nat)(ct:CT)(l:Nm):Option Res:=bd (sp st ct l) fun z=>match ct.smallB&&z.more with
 |true=>some z
 |false=>none
theorem JJ {st:Nat}{ct:CT}{l:Nm}{z:Res}(h:stp st ct l=some z):ct.smallB=true∧sp st ct l=some z∧z.more=true:=by
 obtain⟨y,e,h⟩:=gU h
 cases q:ct.smallB&&y.more with
 |true=>rw[q]at h;cases h;have q:=Bool.and_eq_true_iff.mp q;exact⟨q.1,e,q.2⟩
 |false=>rw[q]at h;cases h
theorem Fg {k st:Nat}{ct:CT}{l:Nm}{z:Res}(h:stp st ct l=some z):run (k+1) st ct l=match run k z.st z.ct z.rest with|none=>none|some b=>some (z.out.map dO++b):=by
 obtain⟨s,e,m⟩:=JJ h
 show(match ct.smallB with|false=>none|true=>match sp st ct l with|none=>none|some z=>match z.more with|false=>wC z|true=>match run k z.st z.ct z.rest with|none=>none|some b=>some (z.out.map dO++b))=_
 rw[s,e]
 show(match z.more with|false=>wC z|true=>match run k z.st z.ct z.rest with|none=>none|some b=>some (z.out.map dO++b))=_
 rw[m]
theorem qU {k st:Nat}{ct:CT}{l:Nm}{z:Res}{b:List Item}(h:stp st ct l=some z)(r:run k z.st z.ct z.rest=some b):run (k+1) st ct l=some (z.out.map dO++b):=by rw[Fg h,r]
theorem uQ {k st:Nat}{ct:CT}{l:Nm}{z:Res}{items:List Item}(h:stp st ct l=some z)(r:run k st ct l=some items):∃ k' b,k=k'+1∧run k' z.st z.ct z.rest=some b∧items=z.out.map dO++b:=by
 cases k with
 |zero=>cases r
 |succ k=>
  rw[Fg h]at r
  cases q:run k z.st z.ct z.rest with
  |some b=>rw[q]at r;cases r;exact⟨k,b,rfl,q,rfl⟩
  |none=>rw[q]at r;cases r
structure Fd where
 st:Nat
 ct:CT
 rest:Nm
 out:List Item
noncomputable def Aw:Nat→Nat→CT→Nm→Option Fd
 |0,st,ct,l=>some ⟨st,ct,l,[]⟩
 |n+1,st,ct,l=>bd (stp st ct l) fun z=>bd (Aw n z.st z.ct z.rest) fun f=>some ⟨f.st,f.ct,f.rest,z.out.map dO++f.out⟩
theorem uR {k st':Nat}{ct':CT}{x:Nm}{b:List Item}(hb:run k st' ct' x=some b):∀ {n st:Nat} {ct:CT} {l:Nm} {o:List Item},Aw n st ct l=some ⟨st',ct',x,o⟩→run (k+n) st ct l=some (o++b)
 |0,_,_,_,_,h=>by cases h;exact hb
 |n+1,st,ct,l,o,h=>by
  obtain⟨z,e,h⟩:=gU h
  obtain⟨⟨s1,c1,r1,o1⟩,q,h⟩:=gU h
  cases h
  rw[List.append_assoc]
  exact qU e (uR hb q)
end
section
structure RqAt (d:D) (rest:Nm) (L:List Item) (k:Nat) (items:List Item):Prop where
 run:run k 304 (.dead d) rest=some items
 eqv:Eqv items L
 sz:sR items≤4*rest.length+4
noncomputable def Rq (rest:Nm)(L:List Item):Prop:=∀ d,∃ k items,RqAt d rest L k items
theorem Rq.eqv {rest:Nm}{L L':List Item}(h:Rq rest L)(e:Eqv L L'):Rq rest L':=fun d=>match h d with
 |⟨k,i,r⟩=>⟨k,i,r.run,fun row=>(r.eqv row).trans (e row),r.sz⟩
theorem Rq.nil:Rq [] []:=fun d=>⟨1,[],rfl,fun _=>rfl,Nat.zero_le _⟩
theorem Rq.mark {m rest:Nm}{L out:List Item}(h:Rq rest L)(f:∀ d,∃ n D,Aw n 304 (.dead d) (m++rest)=some ⟨304,.dead D,rest,out⟩)(b:sR out≤4*m.length):Rq (m++rest) (out++L):=fun d=>match f d with
 |⟨n,D,e⟩=>match h D with
  |⟨k,i,r⟩=>⟨k+n,out++i,uR r.run e,.app (fun _=>rfl) r.eqv,by have:=r.sz;rw[nA,List.length_append];omega⟩
noncomputable abbrev pS:Nat→Bool:=kN bX true
noncomputable abbrev pP:Nat→Bool:=kN sA false
theorem NR {c:Nat}(h:bX c=true):c=9∨c=10∨c=12∨c=32∨c=13:=by
 have e:(nb [9] [c]||(nb [10] [c]||(nb [12] [c]||(nb [32] [c]||(nb [13] [c]||false)))))=true:=h
 simp only[Bool.or_eq_true,Bool.or_false]at e
 rcases e with e|e|e|e|e <;>cases aT e <;>simp
theorem KN (c:Nat):pS c=bX c:=by
 unfold pS kN
 cases bX c <;>rfl
theorem Fh {c:Nat}(h:pS c=true):pP c=true:=by
 rw[KN]at h
 rcases NR h with rfl|rfl|rfl|rfl|rfl <;>decide+kernel
theorem Fi {c a:Nat}(h:pP c=true)(e:pP a=false):nb [c] [a]=false:=by
 cases q:nb [c] [a]with
 |false=>rfl
 |true=>cases aT q;rw[e]at h;cases h
theorem yA {d:D}{c:Nat}{l:Nm}(h:pP c=true):stp 304 (.dead d) (c::l)=some (bif bX c then⟨true,304,.dead d,[.chr2 ([c]++l.takeWhile pS)],l.dropWhile pS⟩else⟨true,304,.dead d,[.chr1 ([c]++l.takeWhile pP)],l.dropWhile pP⟩):=by
 have e:sp 304 (.dead d) (c::l)=bif nb [c] [38]then some ⟨true,311,.dead d,[],l⟩else bif nb [c] [60]then some ⟨true,353,.dead d,[],l⟩else bif nb [c] [0]then some ⟨true,304,.dead d,[.err bY,.chr1 [0]],l⟩else bif bX c then some ⟨true,304,.dead d,[.chr2 ([c]++(l.takeWhile pS))],(l.dropWhile pS)⟩else some ⟨true,304,.dead d,[.chr1 ([c]++(l.takeWhile pP))],(l.dropWhile pP)⟩:=by kernel_rfl
 rw[Fi h (by decide+kernel),Fi h (by decide+kernel),Fi h (by decide+kernel)]at e
 unfold stp
 rw[e]
 cases bX c <;>rfl
structure StrpAt (d:D) (p:Nat→Bool) (l:Nm) (items:List Item) (k:Nat) (i:List Item):Prop where
 run:run k 304 (.dead d) (l.dropWhile p)=some i
 eqv:∀ row s,bD (eU row (.text s)) items=bD (eU row (.text (s++l.takeWhile p))) i
 sz:sR i+(l.takeWhile p).length≤sR items
noncomputable def Fj (d:D)(p:Nat→Bool)(l:Nm)(items:List Item):Prop:=∃ k i,StrpAt d p l items k i
theorem pH {d:D}{p:Nat→Bool}{l:Nm}{items:List Item}{k:Nat}(h:run k 304 (.dead d) l=some items)(e:l.takeWhile p=[])(e2:l.dropWhile p=l):Fj d p l items:=⟨k,items,e2.symm▸h,fun row s=>by rw[e,List.append_nil],by rw[e];exact Nat.le_refl _⟩
theorem sS {d:D}{p:Nat→Bool}{c:Nat}{l b:Nm}{i:List Item}{k:Nat}(hc:p c=true)(h:run k 304 (.dead d) (l.dropWhile p)=some i):Fj d p (c::l) (.text ([c]++l.takeWhile p)::i):=by
 refine⟨k,i,by rw[List.dropWhile_cons_of_pos hc];exact h,fun row s=>?_,?_⟩
 ·rw[List.takeWhile_cons_of_pos hc]
  exact congrArg (fun w=>bD w i) (nB row s _)
 ·rw[List.takeWhile_cons_of_pos hc]
  show i.length+eL i+(l.takeWhile p).length.succ≤(i.length+1)+(([c]++l.takeWhile p).length+eL i)
  rw[List.length_append]
  show _≤(i.length+1)+(1+(l.takeWhile p).length+eL i)
  omega
theorem JK {d:D}{l:Nm}{items:List Item}{k:Nat}(h:run k 304 (.dead d) l=some items):Fj d pS l items:=by
 cases l with
 |nil=>exact pH h rfl rfl
 |cons c l=>
  cases q:pS c with
  |false=>exact pH h (List.takeWhile_cons_of_neg (by rw[q];decide)) (List.dropWhile_cons_of_neg (by rw[q];decide))
  |true=>
   have e:=yA (d:=d) (l:=l) (Fh q)
   rw[(KN c).symm.trans q]at e
   obtain⟨k',b,rfl,r,rfl⟩:=uQ e h
   exact sS (b:=[]) q r
theorem Fk:∀ l:Nm,(l.dropWhile pS).dropWhile pP=l.dropWhile pP∧l.takeWhile pS++(l.dropWhile pS).takeWhile pP=l.takeWhile pP
 | []=>⟨rfl,rfl⟩
 |c::l=>by
  cases q:pS c with
  |false=>rw[List.dropWhile_cons_of_neg (by rw[q];decide),List.takeWhile_cons_of_neg (by rw[q];decide)];exact⟨rfl,rfl⟩
  |true=>
   rw[List.dropWhile_cons_of_pos q,List.takeWhile_cons_of_pos q,List.dropWhile_cons_of_pos (Fh q),List.takeWhile_cons_of_pos (Fh q)]
   exact⟨(Fk l).1,congrArg (c::·) (Fk l).2⟩
theorem zY {d:D}:∀ {k:Nat} {l:Nm} {items:List Item},run k 304 (.dead d) l=some items→Fj d pP l items
 |_,[],_,h=>pH h rfl rfl
 |k,c::l,items,h=>by
  cases q:pP c with
  |false=>exact pH h (List.takeWhile_cons_of_neg (by rw[q];decide)) (List.dropWhile_cons_of_neg (by rw[q];decide))
  |true=>
   have e:=yA (d:=d) (l:=l) q
   cases w:bX c with
   |false=>
    rw[w]at e
    obtain⟨k',b,rfl,r,rfl⟩:=uQ e h
    exact sS (b:=[]) q r
   |true=>
    rw[w]at e
    obtain⟨k',b,rfl,r,rfl⟩:=uQ e h
    obtain⟨k2,i,t⟩:=zY r
    have hd:=Fk l
    refine⟨k2,i,?_,fun row s=>?_,?_⟩
    ·rw[List.dropWhile_cons_of_pos q,← hd.1];exact t.run
    ·rw[List.takeWhile_cons_of_pos q,← hd.2]
     refine(congrArg (fun w=>bD w b) (nB row s ([c]++l.takeWhile pS))).trans ((t.eqv row _).trans ?_)
     rw[List.append_assoc,List.append_assoc];rfl
    ·have z:=t.sz
     rw[List.takeWhile_cons_of_pos q,← hd.2]
     show sR i+(l.takeWhile pS++(l.dropWhile pS).takeWhile pP).length.succ≤(b.length+1)+(([c]++l.takeWhile pS).length+eL b)
     rw[List.length_append,List.length_append]
     replace z:sR i+((l.dropWhile pS).takeWhile pP).length≤b.length+eL b:=z
     show _≤(b.length+1)+(1+(l.takeWhile pS).length+eL b)
     omega
theorem Rq.plain {c:Nat}{rest:Nm}{L:List Item}(h:Rq rest L)(hc:pP c=true):Rq (c::rest) (.text [c]::L):=fun d=>match h d with
 |⟨k,items,r⟩=>by
  have e:=yA (d:=d) (l:=rest) hc
  have iJ:∀ p,Fj d p rest items→stp 304 (.dead d) (c::rest)=some ⟨true,304,.dead d,[.chr1 ([c]++rest.takeWhile p)],rest.dropWhile p⟩∨stp 304 (.dead d) (c::rest)=some ⟨true,304,.dead d,[.chr2 ([c]++rest.takeWhile p)],rest.dropWhile p⟩→∃ k i,RqAt d (c::rest) (.text [c]::L) k i:=fun p t e=>match t with
   |⟨k2,i,t⟩=>⟨k2+1,.text ([c]++rest.takeWhile p)::i,e.elim (fun e=>qU e t.run) (fun e=>qU e t.run),fun row=>((t.eqv row [c]).symm.trans (r.eqv _):bD (eU row _) i=bD (eU row _) L),by
     have z:=t.sz
     have y:=r.sz
     show(i.length+1)+((rest.takeWhile p).length.succ+eL i)≤4*rest.length.succ+4
     replace z:i.length+eL i+(rest.takeWhile p).length≤_:=z
     omega⟩
  cases w:bX c with
  |false=>rw[w]at e;exact iJ _ (zY r.run) (.inl e)
  |true=>rw[w]at e;exact iJ _ (JK r.run) (.inr e)
theorem Rq.nul {rest:Nm}{L:List Item}(h:Rq rest L):Rq (0::rest) (.error bY::.text [0]::L):=h.mark (m:=[0]) (out:=[.error bY,.text [0]]) (fun d=>⟨1,d,by kernel_rfl⟩) (by decide)
noncomputable def TY (c:Nat):List Item:=bif nb [c] [0]then [.error bY,.text [0]]else [.text [c]]
noncomputable def JL:Nm→List Item
 | []=>[]
 |c::s=>TY c++JL s
theorem Rq.chars {rest:Nm}{L:List Item}(h:Rq rest L):∀ {s:Nm},s.all (fun c=>nb [c] [0]||pP c)=true→Rq (s++rest) (JL s++L)
 | [],_=>h
 |c::s,hs=>by
  have hs:=Bool.and_eq_true_iff.mp hs
  have ih:=h.chars hs.2
  show Rq (c::(s++rest)) ((TY c++JL s)++L)
  unfold TY
  have h0:(nb [c] [0]||pP c)=true:=hs.1
  cases q:nb [c] [0]with
  |true=>cases aT q;exact ih.nul
  |false=>rw[q]at h0;exact ih.plain h0
end
section
noncomputable def OJ (c:Nat):Bool:=Nat.beq c 0||(Nat.beq c 9||(Nat.beq c 10||(Nat.beq c 13||(Nat.ble 32 c&&Nat.ble c 126))))
theorem Fm {c:Nat}(h:OJ c=true):xO c:=by
 unfold OJ at h
 simp only[Bool.or_eq_true,Bool.and_eq_true,Nat.beq_eq,Nat.ble_eq]at h
 exact h
noncomputable def Fp (st:Nat)(ct:CT)(es:List b9)(k:Nat):Option (List Item×Bool×Bool):=bd (run 300 st ct (md false ((fA es).take (k+1)))) fun i=>some (bD [] i,Nat.ble (sR i) (4 * (md false ((fA es).take (k+1))).length+4),true)
noncomputable def Fq (es:List b9)(k:Nat):Option (List Item×Bool×Bool):=some (bD [] (cV (es.take (k+1))),true,Nat.ble (sR (cV (es.take (k+1)))) (4 * (k+1)+4))
structure SegV where
 cut:List (Option (List Item×Bool×Bool))
 fd:Option Fd
 cr:Bool
 ch:Bool
 sz:Bool
noncomputable def JM (x:Nm)(n st:Nat)(ct:CT)(es:List b9)(o:List Item):SegV:=⟨(List.range es.length).map (Fp st ct es),Aw n st ct (md false (fA es)++x),IK false (fA es),(fA es).all OJ,Nat.ble (sR o) (4 * (md false (fA es)).length)⟩
noncomputable def JN (x:Nm)(es:List b9)(st':Nat)(ct':CT)(o:List Item):SegV:=⟨(List.range es.length).map (Fq es),some ⟨st',ct',x,o⟩,false,true,true⟩
noncomputable def Seg (st:Nat)(ct:CT)(es:List b9)(st':Nat)(ct':CT)(o:List Item):Prop:=∃ n,∀ x,JM x n st ct es o=JN x es st' ct' o
noncomputable def sh (o:List Item)(es:List b9):List b9:=es.map fun e=>(e.1,o++e.2)
theorem Fr (es:List b9):sh [] es=es:=List.map_id es
theorem qV (o:List Item)(es:List b9):fA (sh o es)=fA es:=List.map_map
theorem jY (a b:List b9):fA (a++b)=fA a++fA b:=List.map_append
theorem nD (a:List b9)(k:Nat):(fA a).take k=fA (a.take k):=List.map_take.symm
theorem zZ (a:List b9):(fA a).length=a.length:=List.length_map ..
theorem sT {a b:List b9}(h:0<b.length):cV (a++b)=cV b:=by
 unfold cV
 rw[List.getLast?_append]
 cases e:b.getLast? with
 |none=>rw[List.getLast?_eq_none_iff.mp e]at h;exact absurd h (Nat.lt_irrefl 0)
 |some y=>rfl
theorem wM {o:List Item}{b:List b9}(h:0<b.length):cV (sh o b)=o++cV b:=by
 unfold cV sh
 rw[List.getLast?_map]
 cases e:b.getLast? with
 |none=>rw[List.getLast?_eq_none_iff.mp e]at h;exact absurd h (Nat.lt_irrefl 0)
 |some y=>rfl
theorem z0:∀ (b:Bool) (x y:Nm),IK b (x++y)=IK (IK b x) y
 |_,[],_=>rfl
 |_,c::x,y=>z0 (Nat.beq c 13) x y
theorem wN:∀ (b:Bool) (s:Nm),(md b s).length≤s.length
 |_,[]=>Nat.le_refl _
 |b,c::s=>by
  rw[hJ]
  cases Nat.beq c 13 with
  |true=>exact Nat.succ_le_succ (wN true s)
  |false=>cases b&&Nat.beq c 10 with
   |true=>exact Nat.le_succ_of_le (wN false s)
   |false=>exact Nat.succ_le_succ (wN false s)
structure Acc (d:D) (es:List b9) (st:Nat) (ct:CT) (o:List Item):Prop where
 cut:∀ k,k<es.length→(∃ n i,RqAt d (md false ((fA es).take (k+1))) (cV (es.take (k+1))) n i)∧sR (cV (es.take (k+1)))≤4 * (k+1)+4
 go:∀ x n i,run n st ct x=some i→∃ n',run n' 304 (.dead d) (md false (fA es)++x)=some (o++i)
 ch:(fA es).all OJ=true
 cr:IK false (fA es)=false
 sz:sR o≤4 * (md false (fA es)).length
theorem Acc.init (d:D):Acc d [] 304 (.dead d) []:=⟨fun _ h=>absurd h (Nat.not_lt_zero _),fun _ n _ h=>⟨n,h⟩,rfl,rfl,Nat.zero_le _⟩
theorem z6 {st:Nat}{ct:CT}{es:List b9}{k:Nat}(h:Fp st ct es k=Fq es k):∃ i,run 300 st ct (md false ((fA es).take (k+1)))=some i∧Eqv i (cV (es.take (k+1)))∧sR i≤4 * (md false ((fA es).take (k+1))).length+4∧sR (cV (es.take (k+1)))≤4 * (k+1)+4:=by
 obtain⟨i,e,h⟩:=gU h
 have h:=Option.some.inj h
 have h2:=congrArg (·.2) h
 exact⟨i,e,wL (congrArg (·.1) h),Nat.le_of_ble_eq_true (congrArg (·.1) h2),Nat.le_of_ble_eq_true (congrArg (·.2) h2).symm⟩
theorem Acc.step {d:D}{es seg:List b9}{st st':Nat}{ct ct':CT}{o o':List Item}(A:Acc d es st ct o):Seg st ct seg st' ct' o'→Acc d (es++sh o seg) st' ct' (o++o')
 |⟨n,h⟩=>by
  have md_add:∀ s,md false (fA es++s)=md false (fA es)++md false s:=fun s=>by rw[nL,A.cr]
  have h0:=h []
  have hsz:=Nat.le_of_ble_eq_true (congrArg SegV.sz h0)
  have hA:=A.sz
  have ls:(sh o seg).length=seg.length:=List.length_map ..
  refine⟨fun k hk=>?_,fun x m i hr=>?_,?_,?_,?_⟩
  ·by_cases q:k<es.length
   ·rw[nD,List.take_append_of_le_length q,← nD]
    exact A.cut k q
   ·have hj:k-es.length<seg.length:=by rw[List.length_append,ls]at hk;omega
    have e1:(es++sh o seg).take (k+1)=es++sh o (seg.take (k-es.length+1)):=by
     rw[List.take_append,List.take_of_length_le (by omega),show k+1-es.length=k-es.length+1 by omega]
     exact congrArg (es++·) List.map_take.symm
    have ek:k+1=es.length+(k-es.length+1):=by omega
    rw[nD,e1,ek]
    generalize k-es.length=j at *
    have np:0 < (seg.take (j+1)).length:=by rw[List.length_take];omega
    obtain⟨i,r,e,b,b2⟩:=z6 (List.map_inj_left.mp (congrArg SegV.cut h0) j (List.mem_range.mpr hj))
    obtain⟨n',hn⟩:=A.go _ _ _ r
    rw[jY,qV,md_add,← nD,sT (by rw[show(sh o (seg.take (j+1))).length=_ from List.length_map ..];exact np),wM np]
    have ml:=wN false (fA es)
    rw[zZ]at ml
    exact⟨⟨n',_,hn,.app (fun _=>rfl) e,by rw[nA,List.length_append];omega⟩,by rw[nA];omega⟩
  ·have hf:Aw n st ct (md false (fA seg)++x)=some ⟨st',ct',x,o'⟩:=congrArg SegV.fd (h x)
   obtain⟨n',hn⟩:=A.go _ _ _ (uR hr hf)
   rw[jY,qV,md_add,List.append_assoc,List.append_assoc]
   exact⟨n',hn⟩
  ·rw[jY,qV,List.all_append,A.ch,show(fA seg).all OJ=true from congrArg SegV.ch h0];rfl
  ·rw[jY,qV,z0,A.cr];exact congrArg SegV.cr h0
  ·rw[jY,qV,md_add,nA,List.length_append];omega
structure PieceQ (p:List b9):Prop where
 s:PieceS p
 ch:∀ c∈fA p,xO c
 hd:(fA p).head?≠some 10
 cut:∀ k,k<p.length→Rq (md false ((fA p).take (k+1))) (cV (p.take (k+1)))
 full:∀ rest L,Rq rest L→Rq (md false (fA p)++rest) (cV p++L)
theorem PieceS.of {p:List b9}(ne:0<p.length)(le:p.length≤100)(h:∀ k,k<p.length→sR (cV (p.take (k+1)))≤4 * (k+1)+4):PieceS p:=⟨ne,le,fun k=>by
 have hb:sR (cV (p.take (k+1)))≤500:=by
  by_cases q:k<p.length
  ·have:=h k q;omega
  ·have:=h (p.length-1) (by omega)
   rw[Nat.sub_add_cancel ne,List.take_length]at this
   rw[List.take_of_length_le (by omega)];omega
 unfold sR at hb
 exact⟨by omega,by omega⟩⟩
theorem Acc.piece {p:List b9}(h:∀ d,∃ D,Acc d p 304 (.dead D) (cV p))(hd:(fA p).head?=some 60)(le:p.length≤100):PieceQ p:=
 (h .non).elim fun _ A0=>⟨.of (Nat.pos_of_ne_zero fun e=>by rw[List.eq_nil_of_length_eq_zero e]at hd;cases hd) le fun k hk=>(A0.cut k hk).2,fun c m=>Fm (List.all_eq_true.mp A0.ch c m),by rw[hd];decide,fun k hk d=>(h d).elim fun _ A=>(A.cut k hk).1,
  fun rest L q d=>(h d).elim fun D A=>match q D with
   |⟨k,i,r⟩=>match A.go rest k i r.run with
    |⟨n',e⟩=>⟨n',_,e,.app (fun _=>rfl) r.eqv,by have:=r.sz;have:=A.sz;rw[nA,List.length_append];omega⟩⟩
theorem Seg.piece {p:List b9}(h:∀ d,∃ D,Seg 304 (.dead d) p 304 (.dead D) (cV p))(hd:(fA p).head?=some 60)(le:p.length≤100):PieceQ p:=Acc.piece (fun d=>(h d).elim fun D S=>⟨D,by
 have A:=(Acc.init d).step S
 rw[Fr]at A
 exact A⟩) hd le
end
section
noncomputable def RO:Nat→Nat→CT→Nm→Nat
 |0,_,_,_=>0
 |f+1,st,ct,l=>match l with
  | []=>0
  |_=>match sp st ct l with
   |none=>0
   |some z=>RO f z.st z.ct z.rest+1
noncomputable def Uc:Option Fd→D
 |some f=>match f.ct with
  |.dead D=>D
  |_=>.non
 |none=>.non
noncomputable def RQ (st:Nat)(ct:CT)(p:List b9):Nat:=RO 300 st ct (md false (fA p))
noncomputable def TZ (st:Nat)(ct:CT)(p:List b9):D:=Uc (Aw (RQ st ct p) st ct (md false (fA p)))
noncomputable def RU (st:Nat)(ct:CT)(x:Nm)(p:List b9):SegV:=JM x (RQ st ct p) st ct p (cV p)
noncomputable def RV (st:Nat)(ct:CT)(x:Nm)(p:List b9):SegV:=JN x p 304 (.dead (TZ st ct p)) (cV p)
noncomputable def Ue (p:List b9):Bool:=Nat.ble p.length 100&&match fA p with
 | []=>false
 |c::_=>Nat.beq c 60
theorem KO {P:List (List b9)}(h:∀ d x,P.map (RU 304 (.dead d) x)=P.map (RV 304 (.dead d) x))(hb:P.all Ue=true)(p:List b9)(hp:p∈P):PieceQ p:=by
 have q:=Bool.and_eq_true_iff.mp (List.all_eq_true.mp hb p hp)
 refine Seg.piece (fun d=>⟨_,RQ 304 (.dead d) p,fun x=>List.map_inj_left.mp (h d x) p hp⟩) ?_ (Nat.le_of_ble_eq_true q.1)
 have w:=q.2
 cases e:fA p with
 |nil=>rw[e]at w;cases w
 |cons c r=>rw[e]at w;exact congrArg some (Nat.eq_of_beq_eq_true w)
noncomputable def RW:List (List b9):=((List.range 10).map fun i=>(List.range 3).map fun b=>nN (dR[i]?.getD []) (zO (dR[i]?.getD []) b)).flatten
theorem JO (d:D)(x:Nm):RW.map (RU 304 (.dead d) x)=RW.map (RV 304 (.dead d) x):=by kernel_rfl
theorem JP (r:Nat):PieceQ (mZ r):=KO JO (by kernel_rfl) _ (List.mem_flatten.mpr ⟨_,List.mem_map.mpr ⟨r%10,List.mem_range.mpr (Nat.mod_lt _ (by decide)),rfl⟩,List.mem_map.mpr ⟨r/10%3,List.mem_range.mpr (Nat.mod_lt _ (by decide)),rfl⟩⟩)
noncomputable def Tz:List (List b9):=(List.range 11).map fun k=>fM bI (dE gW (bif Nat.beq k 5 then 0 else k))
theorem NT (d:D)(x:Nm):Tz.map (RU 304 (.dead d) x)=Tz.map (RV 304 (.dead d) x):=by kernel_rfl
theorem NU {k:Nat}(h:k<11)(h5:k≠5):PieceQ (fM bI (dE gW k)):=KO NT (by kernel_rfl) _ (List.mem_map.mpr ⟨k,List.mem_range.mpr h,by rw[zF h5];rfl⟩)
noncomputable def UA (p:List b9):Bool:=Nat.ble 1 p.length&&(Nat.ble p.length 100&&((fA p).all OJ&&match fA p with
 | []=>false
 |c::_=> !Nat.beq c 10))
theorem KP {p:List b9}(h:∀ d,(List.range p.length).map (Fp 304 (.dead d) p)=(List.range p.length).map (Fq p))(hb:UA p=true)(full:∀ rest L,Rq rest L→Rq (md false (fA p)++rest) (cV p++L)):PieceQ p:=by
 have q:=Bool.and_eq_true_iff.mp hb
 have q2:=Bool.and_eq_true_iff.mp q.2
 have q3:=Bool.and_eq_true_iff.mp q2.2
 have w:=q3.2
 have c:=fun d k (hk:k<p.length)=>z6 (List.map_inj_left.mp (h d) k (List.mem_range.mpr hk))
 refine⟨.of (Nat.le_of_ble_eq_true q.1) (Nat.le_of_ble_eq_true q2.1) fun k hk=>(c .non k hk).elim fun _ z=>z.2.2.2,fun c m=>Fm (List.all_eq_true.mp q3.1 c m),?_,fun k hk d=>(c d k hk).elim fun i z=>⟨300,i,z.1,z.2.1,z.2.2.1⟩,full⟩
 cases e:fA p with
 |nil=>rw[e]at w;cases w
 |cons c r=>
  rw[e]at w
  exact fun e=>by cases e;cases w
theorem JQ (d:D):(List.range (fM bI (dE gW 5)).length).map (Fp 304 (.dead d) (fM bI (dE gW 5)))=(List.range (fM bI (dE gW 5)).length).map (Fq (fM bI (dE gW 5))):=by kernel_rfl
noncomputable abbrev Ta:Item:=.error Uu
theorem JR:PieceQ (fM bI (dE gW 5)):=KP JQ (by kernel_rfl) fun rest L q=>by
 have e:md false (fA (fM bI (dE gW 5)))=[60,49]:=by kernel_rfl
 have e2:cV (fM bI (dE gW 5))=[Ta,.text [60,49]]:=by kernel_rfl
 rw[e,e2]
 exact(Rq.mark (m:=[60]) (out:=[Ta,.text [60]]) (q.plain (c:=49) (by kernel_rfl)) (fun d=>⟨2,d,by kernel_rfl⟩) (by decide)).eqv fun row=>congrArg (fun w=>bD w L) (nB (eU row Ta) [60] [49])
noncomputable def JS (k:Nat):List b9:=fM nO (dE gO k)
theorem Fs (d:D):(List.range 6).map (fun k=>(List.range (JS k).length).map (Fp 304 (.dead d) (JS k)))=(List.range 6).map fun k=>(List.range (JS k).length).map (Fq (JS k)):=by kernel_rfl
theorem Ax:(List.range 6).map (fun k=>bD [] (JL (md false (fA (JS k)))))=(List.range 6).map fun k=>bD [] (cV (JS k)):=by kernel_rfl
theorem JT:((List.range 6).all fun k=>UA (JS k)&&(md false (fA (JS k))).all fun c=>nb [c] [0]||pP c)=true:=by kernel_rfl
theorem Ft {k:Nat}(h:k<6):PieceQ (JS k):=by
 have hk:=List.mem_range.mpr h
 have b:=Bool.and_eq_true_iff.mp (List.all_eq_true.mp JT k hk)
 exact KP (fun d=>List.map_inj_left.mp (Fs d) k hk) b.1 fun rest L q=>(q.chars b.2).eqv (.app (wL (List.map_inj_left.mp Ax k hk)) fun _=>rfl)
end
section
noncomputable def fZ (Q:List Nm):List Item:=Q.map .error
theorem Fu (Q T:List Nm):fZ (Q++T)=fZ Q++fZ T:=List.map_append
theorem kY (Q T:List Nm)(it:Item):bT (Q++T) it=fZ Q++bT T it:=by
 unfold bT
 rw[List.map_append,List.append_assoc];rfl
theorem iZ (o:List Item)(a b:List b9):sh o (a++b)=sh o a++sh o b:=List.map_append
theorem Fv (o ba:List Item)(b:Nm):sh o (uK b ba)=uK b (o++ba):=List.map_map
theorem qW (f:Nm)(Q T:List Nm):∀ k,cD f (Q++T) k=Q++cD f T k
 |0=>rfl
 |k+1=>by
  have ih:=qW f Q T k
  show(match f[k]? with|some a=>bif nb [a] [0]then cD f (Q++T) k++[bY]else cD f (Q++T) k|none=>cD f (Q++T) k)=Q++(match f[k]? with|some a=>bif nb [a] [0]then cD f T k++[bY]else cD f T k|none=>cD f T k)
  rw[ih]
  cases f[k]? with
  |none=>rfl
  |some a=>
   show(bif nb [a] [0]then Q++cD f T k++[bY]else Q++cD f T k)=Q++(bif nb [a] [0]then cD f T k++[bY]else cD f T k)
   cases nb [a] [0]with
   |true=>exact List.append_assoc ..
   |false=>rfl
theorem uS (nm:Nm)(g l:Option Nm)(w f:Nm)(Q T:List Nm):∀ k,jV nm g l w f (Q++T) k=sh (fZ Q) (jV nm g l w f T k)
 |0=>rfl
 |k+1=>by
  show jV nm g l w f (Q++T) k++_=sh (fZ Q) (jV nm g l w f T k++_)
  rw[iZ,← uS nm g l w f Q T k,qW]
  refine congrArg (jV nm g l w f (Q++T) k++·) ?_
  cases f[k]? with
  |none=>rfl
  |some a=>
   show [(a,bT (Q++cD f T (k+1)++[aY]) _)]=[(a,fZ Q++bT (cD f T (k+1)++[aY]) _)]
   rw[List.append_assoc,kY]
theorem uT (sp:Nat)(Q:List Nm):m7 sp Q=Q++m7 sp []:=by
 unfold m7
 split
 ·exact(List.append_nil Q).symm
 ·rfl
theorem NV (sp:Nat)(o la:List Item)(P X:List b9):NA sp (o++la) (P++sh o X)=P++sh o (NA sp la X):=by
 unfold NA
 split
 ·rw[iZ,List.append_assoc];rfl
 ·rfl
theorem NW (key:Nm)(o la ba:List Item)(P:List b9):uZ key (o++la) (o++ba) P=P++sh o (uZ key la ba []):=by
 unfold uZ
 rw[iZ,iZ,Fv,List.append_assoc,List.append_assoc]
 show _=P++([(32,o++la)]++uK _ _++sh o (List.map _ _))
 rw[List.append_assoc,show sh o ((cut key (some 5) none).map fun c=>(c,la))=(cut key (some 5) none).map fun c=>(c,o++la)from List.map_map]
noncomputable abbrev qX (nm:Nm):List Item:=gQ [] nm
noncomputable abbrev NY (nm:Nm):List Item:=qQ [] nm
theorem uU (Q:List Nm)(nm:Nm):gQ Q nm=fZ Q++qX nm:=kY Q [aY] _
theorem Fw (Q:List Nm)(nm:Nm):qQ Q nm=fZ Q++NY nm:=kY Q [g6] _
theorem uV (Q T:List Nm)(nm:Nm)(f l:Option Nm):[((62:Nat),fY (Q++T) nm f l)]=sh (fZ Q) [(62,fY T nm f l)]:=congrArg (fun w=>[((62:Nat),w)]) (kY Q T _)
noncomputable def n0 (nm key:Nm)(b:Nat)(l:Option Nm)(w:Nm)(c:Nat):List b9:=NA b (qX nm) (uZ key (qX nm) (NY nm) [])++qS nm none l w (gD c) (m7 b [])
noncomputable def t2 (nm key:Nm)(b c:Nat)(w:Nm):List b9:=n0 nm key b none w c++[(62,fY (m5 w (gD c) (m7 b [])) nm (some (aE w)) none)]
noncomputable def t4 (nm key:Nm)(b c:Nat)(w:Nm):List b9:=n0 nm key b (some []) w c++[(62,fY (m5 w (gD c) (m7 b [])) nm none (some (aE w)))]
noncomputable def t5 (nm b:Nm):List b9:=[(32,qX nm)]++uK (b++[62]) (NY nm)
noncomputable def t3 (nm w4:Nm)(i k:Nat)(w:Nm):List b9:=KG i nm w4 [] []++qS nm (some (aE w4)) (some []) w (gD k) (m7 i [])++[(62,fY (m5 w (gD k) (m7 i [])) nm (some (aE w4)) (some (aE w)))]
theorem uW (nm key:Nm)(b:Nat)(l:Option Nm)(w:Nm)(c:Nat)(P:List b9)(Q:List Nm):NA b (gQ Q nm) (uZ key (gQ Q nm) (qQ Q nm) P)++qS nm none l w (gD c) (m7 b Q)=P++sh (fZ Q) (n0 nm key b l w c):=by
 unfold n0
 rw[uU,Fw,NW,NV,uT,iZ,← List.append_assoc]
 exact congrArg _ (uS ..)
theorem pI (w:Nm)(q b:Nat)(Q:List Nm):m5 w q (m7 b Q)=Q++m5 w q (m7 b []):=by rw[uT];exact qW ..
theorem NZ (i:Nat)(nm w4:Nm)(Q:List Nm)(P:List b9):KG i nm w4 Q P=P++sh (fZ Q) (KG i nm w4 [] []):=by
 unfold KG
 split
 ·exact congrArg (fun w=>P++[((32:Nat),w)]) (kY Q [aY] _)
 ·exact(List.append_nil P).symm
theorem RY (nm w4 w:Nm)(i k:Nat)(P:List b9)(Q:List Nm):KG i nm w4 Q P++qS nm (some (aE w4)) (some []) w (gD k) (m7 i Q)++[(62,fY (m5 w (gD k) (m7 i Q)) nm (some (aE w4)) (some (aE w)))]=P++sh (fZ Q) (t3 nm w4 i k w):=by
 unfold t3
 rw[NZ,pI,uV,uT,show qS nm _ _ w (gD k) (Q++m7 i [])=sh (fZ Q) _ from uS ..,iZ,iZ,List.append_assoc P _ _,List.append_assoc P _ _]
 rfl
noncomputable def r2:List Nat:=[0,1]
noncomputable def r4:List Nat:=[0,1,2,3]
noncomputable def Na (nm:Nm):List (List b9):=[(62,fY [] nm none none)]::[(32,qX nm),(62,fY [] nm none none)]::(r4.map (fun e=>t5 nm (dE j8 e))++
 r2.flatMap fun a=>r2.flatMap fun b=>r2.flatMap fun c=>r4.map (fun e=>t2 nm (dE cZ a) b c (dE aM e))++r4.map fun e=>t4 nm (dE cZ (a+2)) b c (dE aM e))
end
section
noncomputable abbrev dc (w:Nm):CT:=.doc (dL [0] [65533] 0 w) none none true
noncomputable abbrev SA (w w4:Nm):CT:=.doc (bK w) (some (aE w4)) none true
theorem Nb (x:Nm):fV.map (fun w=>(Na (bK w)).map (RU 668 (dc w) x))=fV.map fun w=>(Na (bK w)).map (RV 668 (dc w) x):=by kernel_rfl
noncomputable def SD:List (Nm×Nm×List b9×List Item):=fV.flatMap fun w=>r2.flatMap fun a=>r2.flatMap fun b=>r2.flatMap fun c=>aM.map fun v=>(w,v,n0 (bK w) (dE cZ a) b none v c,fZ (m5 v (gD c) (m7 b [])))
theorem Nc (x:Nm):SD.map (fun t=>JM x (RQ 668 (dc t.1) t.2.2.1) 668 (dc t.1) t.2.2.1 t.2.2.2)=SD.map fun t=>JN x t.2.2.1 710 (SA t.1 t.2.1) t.2.2.2:=by kernel_rfl
noncomputable def SE:List (Nm×Nm×List b9):=fV.flatMap fun w=>aM.flatMap fun w4=>r2.flatMap fun i=>r2.flatMap fun k=>aM.map fun v=>(w,w4,t3 (bK w) w4 i k v)
theorem Nd (x:Nm):SE.map (fun t=>RU 710 (SA t.1 t.2.1) x t.2.2)=SE.map fun t=>RV 710 (SA t.1 t.2.1) x t.2.2:=by kernel_rfl
noncomputable abbrev UB (dw g w:Nm):List b9:=lN dw g++jW w (j0 g) w.length
noncomputable abbrev UC (g w:Nm):List Nm:=cD w (j0 g) w.length
noncomputable def SF:List (Nm×List b9×List Item):=dB.flatMap fun dw=>lV.flatMap fun g=>fV.map fun w=>(w,UB dw g w,fZ (UC g w))
theorem Nf (d:D)(x:Nm):SF.map (fun t=>JM x (RQ 304 (.dead d) t.2.1) 304 (.dead d) t.2.1 t.2.2)=SF.map fun t=>JN x t.2.1 668 (dc t.1) t.2.2:=by kernel_rfl
end
section
theorem Fy {a:Nat}(h:a<2):a∈r2:=match a,h with
 |0,_=>.head _
 |1,_=>.tail _ (.head _)
theorem Tb {a:Nat}(h:a<4):a∈r4:=match a,h with
 |0,_=>.head _
 |1,_=>.tail _ (.head _)
 |2,_=>.tail _ (.tail _ (.head _))
 |3,_=>.tail _ (.tail _ (.tail _ (.head _)))
theorem qY {l:List Nm}{k:Nat}(h:k<l.length):dE l k∈l:=List.mem_of_getElem? (eI h)
theorem m2 (n:Nat):n%2<2:=Nat.mod_lt _ (by decide)
theorem m4 (n:Nat):n%4<4:=Nat.mod_lt _ (by decide)
noncomputable def SG (t:List b9):Bool:=Nat.ble 1 t.length&&Nat.ble t.length 40
theorem RZ:(fV.all fun w=>(Na (bK w)).all SG)=true:=by kernel_rfl
theorem Ra:(SD.all (fun t=>SG t.2.2.1)&&(SE.all (fun t=>SG t.2.2)&&SF.all fun t=>Nat.ble t.2.1.length 20&&Nat.beq (fA t.2.1).head! 60))=true:=by kernel_rfl
section
variable {w key v:Nm}{P t:List b9}{Q:List Nm}{o:List Item}{a b c i k st:Nat}{ct:CT}
theorem sU (hA:∀ d,Acc d P st ct o)(hS:Seg st ct t 304 (.dead (TZ st ct t)) (cV t))(hd:(fA P).head?=some 60)(ht:SG t=true)(hP:P.length≤60):PieceQ (P++sh o t):=by
 have l:=Bool.and_eq_true_iff.mp ht
 have l1:=Nat.le_of_ble_eq_true l.1
 have l2:=Nat.le_of_ble_eq_true l.2
 have ls:(sh o t).length=t.length:=List.length_map ..
 refine Acc.piece (fun d=>⟨TZ st ct t,?_⟩) ?_ (by rw[List.length_append,ls];omega)
 ·have A:=(hA d).step hS
  rw[← wM l1,← sT (a:=P) (by rw[ls];exact l1)]at A
  exact A
 ·rw[jY,List.head?_append,hd];rfl
theorem qZ (hw:w∈fV)(ht:t∈Na (bK w))(hA:∀ d,Acc d P 668 (dc w) (fZ Q))(hd:(fA P).head?=some 60)(hP:P.length≤60):PieceQ (P++sh (fZ Q) t):=
 sU hA ⟨_,fun x=>List.map_inj_left.mp (List.map_inj_left.mp (Nb x) w hw) t ht⟩ hd (List.all_eq_true.mp (List.all_eq_true.mp RZ w hw) t ht) hP
theorem KQ (ha:a∈r2)(hb:b∈r2)(hc:c∈r2)(hk:k∈r4):t2 w (dE cZ a) b c (dE aM k)∈Na w∧t4 w (dE cZ (a+2)) b c (dE aM k)∈Na w:=by
 have h:∀ t,t∈r4.map (fun e=>t2 w (dE cZ a) b c (dE aM e))++r4.map (fun e=>t4 w (dE cZ (a+2)) b c (dE aM e))→t∈Na w:=fun t h=>
  .tail _ (.tail _ (List.mem_append_right _ (List.mem_flatMap.mpr ⟨a,ha,List.mem_flatMap.mpr ⟨b,hb,List.mem_flatMap.mpr ⟨c,hc,h⟩⟩⟩)))
 exact⟨h _ (List.mem_append_left _ (List.mem_map.mpr ⟨k,hk,rfl⟩)),h _ (List.mem_append_right _ (List.mem_map.mpr ⟨k,hk,rfl⟩))⟩
theorem Rb (nm:Nm)(Q:List Nm):[((62:Nat),fY Q nm none none)]=sh (fZ Q) [(62,fY [] nm none none)]:=by
 have h:=uV Q [] nm none none
 rwa [List.append_nil]at h
theorem Rc (hw:w∈fV)(ha:a∈r2)(hb:b∈r2)(hc:c∈r2)(hv:v∈aM){v2:Nm}(hi:i∈r2)(hk:k∈r2)(hv2:v2∈aM)(hA:∀ d,Acc d P 668 (dc w) (fZ Q))(hd:(fA P).head?=some 60)(hP:P.length≤20):
  PieceQ (P++sh (fZ Q) (n0 (bK w) (dE cZ a) b none v c)++sh (fZ (Q++m5 v (gD c) (m7 b []))) (t3 (bK w) v i k v2)):=by
 have q:=Bool.and_eq_true_iff.mp Ra
 have h1:(w,v,n0 (bK w) (dE cZ a) b none v c,fZ (m5 v (gD c) (m7 b [])))∈SD:=List.mem_flatMap.mpr ⟨w,hw,List.mem_flatMap.mpr ⟨a,ha,List.mem_flatMap.mpr ⟨b,hb,List.mem_flatMap.mpr ⟨c,hc,List.mem_map.mpr ⟨v,hv,rfl⟩⟩⟩⟩⟩
 have h2:(w,v,t3 (bK w) v i k v2)∈SE:=List.mem_flatMap.mpr ⟨w,hw,List.mem_flatMap.mpr ⟨v,hv,List.mem_flatMap.mpr ⟨i,hi,List.mem_flatMap.mpr ⟨k,hk,List.mem_map.mpr ⟨v2,hv2,rfl⟩⟩⟩⟩⟩
 have l:=Nat.le_of_ble_eq_true (Bool.and_eq_true_iff.mp (List.all_eq_true.mp q.1 _ h1)).2
 refine sU (st:=710) (ct:=SA w v) (fun d=>?_) ⟨_,fun x=>List.map_inj_left.mp (Nd x) _ h2⟩ ?_ (List.all_eq_true.mp (Bool.and_eq_true_iff.mp q.2).1 _ h2) ?_
 ·rw[Fu]
  exact(hA d).step ⟨_,fun x=>List.map_inj_left.mp (Nc x) _ h1⟩
 ·rw[jY,List.head?_append,hd];rfl
 ·rw[List.length_append,show(sh (fZ Q) _).length=_ from List.length_map ..]
  have:(n0 (bK w) (dE cZ a) b none v c).length≤40:=l
  omega
theorem Ng (r:Nat)(T:List Nat):PieceQ (jI r T):=by
 have hw:gS r∈fV:=qY (m4 _)
 have hg:uM r∈lV:=qY (Nat.mod_lt _ (by decide))
 have hD:dE dB (r%3)∈dB:=qY (Nat.mod_lt _ (by decide))
 have hh:(gS r,UB (dE dB (r%3)) (uM r) (gS r),fZ (UC (uM r) (gS r)))∈SF:=List.mem_flatMap.mpr ⟨_,hD,List.mem_flatMap.mpr ⟨_,hg,List.mem_map.mpr ⟨_,hw,rfl⟩⟩⟩
 have q:=Bool.and_eq_true_iff.mp (List.all_eq_true.mp (Bool.and_eq_true_iff.mp (Bool.and_eq_true_iff.mp Ra).2).2 _ hh)
 have hA:∀ d,Acc d (KM r) 668 (dc (gS r)) (fZ (NF r)):=fun d=>by
  have A:=(Acc.init d).step ⟨_,fun x=>List.map_inj_left.mp (Nf d x) _ hh⟩
  rw[Fr]at A
  exact A
 have hd:(fA (KM r)).head?=some 60:=rfl
 have hP:(KM r).length≤20:=Nat.le_of_ble_eq_true q.1
 unfold jI
 generalize T.headD 0=m
 generalize KM r=P at *
 generalize NF r=Q at *
 generalize gS r=w at *
 have l6:r/36%6<6:=Nat.mod_lt _ (by decide)
 generalize r/36%6=fm at *
 match fm,l6 with
 |0,_=>
  have h:=qZ hw (.head _) hA hd (Nat.le_trans hP (by decide))
  rw[← Rb]at h
  exact h
 |1,_=>
  have h:=qZ hw (.tail _ (.head _)) hA hd (Nat.le_trans hP (by decide))
  have e:P++[((32:Nat),gQ Q (bK w))]++[(62,fY Q (bK w) none none)]=P++sh (fZ Q) [(32,qX (bK w)),(62,fY [] (bK w) none none)]:=by rw[Rb,uU,List.append_assoc];rfl
  rw[← e]at h
  exact h
 |2,_=>
  have h:=qZ hw (KQ (Fy (m2 m)) (Fy (m2 (m/2))) (Fy (m2 (m/4))) (Tb (m4 (m/8)))).1 hA hd (Nat.le_trans hP (by decide))
  unfold t2 at h
  rw[iZ,← uV,← pI,← List.append_assoc,← uW]at h
  exact h
 |3,_=>
  have h:=Rc hw (Fy (m2 m)) (Fy (m2 (m/2))) (Fy (m2 (m/4))) (qY (l:=aM) (m4 (m/8))) (Fy (m2 (m/32))) (Fy (m2 (m/64))) (qY (l:=aM) (m4 (m/128))) hA hd (Nat.le_trans hP (by decide))
  rw[← RY,← pI,← uW]at h
  exact h
 |4,_=>
  have h:=qZ hw (KQ (Fy (m2 m)) (Fy (m2 (m/2))) (Fy (m2 (m/4))) (Tb (m4 (m/8)))).2 hA hd (Nat.le_trans hP (by decide))
  unfold t4 at h
  rw[iZ,← uV,← pI,← List.append_assoc,← uW]at h
  exact h
 |5,_=>
  have h:=qZ hw (.tail _ (.tail _ (List.mem_append_left _ (List.mem_map.mpr ⟨m%4,Tb (m4 m),rfl⟩)))) hA hd (Nat.le_trans hP (by decide))
  unfold t5 at h
  rw[iZ,Fv,← Fw,← List.append_assoc]at h
  have e:sh (fZ Q) [((32:Nat),qX (bK w))]=[(32,gQ Q (bK w))]:=by rw[uU];rfl
  rw[e]at h
  exact h
end
end
section
theorem q0 (n:Nat)(T:List Nat):PieceQ (jX n T):=by
 unfold jX
 split
 ·exact JP _
 ·exact Ng _ _
 ·by_cases h:n/4%11=5
  ·rw[h];exact JR
  ·exact NU (Nat.mod_lt _ (by decide)) h
 ·exact Ft (Nat.mod_lt _ (by decide))
noncomputable def Ay:List (List b9)→Nat→List Item
 | [],_=>[]
 |p::ps,c=>match c with
  |0=>Ay ps 0
  |c+1=>cV (p.take (c+1))++Ay ps (c+1 - (p.take (c+1)).length)
theorem q5:∀ (ps:List (List b9)) (row:List Item) (c:Nat),oJ row ps c=bD row (Ay ps c)
 | [],_,_=>rfl
 |_::ps,row,0=>q5 ps row 0
 |p::ps,row,c+1=>(q5 ps _ _).trans (fG _ _ _).symm
theorem nS:∀ ps:List (List b9),Ay ps 0=[]
 | []=>rfl
 |_::ps=>nS ps
theorem Fz:∀ ps:List (List b9),(∀ p∈ps,PieceQ p)→(g7 ps).head?≠some 10
 | [],_=>nofun
 |p::ps,h=>by
  have hp:=h p (.head _)
  have n:=hp.s.ne
  have hd:=hp.hd
  show(fA p++g7 ps).head?≠_
  cases p with
  |nil=>exact absurd n (Nat.lt_irrefl 0)
  |cons e p=>exact hd
theorem JU {b:Bool}{s:Nm}(h:s.head?≠some 10):md b s=md false s:=by
 cases s with
 |nil=>rfl
 |cons c s=>
  rw[hJ,hJ]
  cases b with
  |false=>rfl
  |true=>
   have e:Nat.beq c 10=false:=zF fun e=>h (congrArg some e)
   rw[e];rfl
theorem GA:∀ (ps:List (List b9)) (c:Nat),(∀ p∈ps,PieceQ p)→Rq (md false ((g7 ps).take c)) (Ay ps c)
 | [],c,_=>(List.take_nil (i:=c):(g7 []).take c=[])▸Rq.nil
 |p::ps,0,_=>(nS (p::ps)).symm▸Rq.nil
 |p::ps,c+1,h=>by
  have hp:=h p (.head _)
  have hps:∀ q∈ps,PieceQ q:=fun q m=>h q (.tail _ m)
  have n:=hp.s.ne
  have sl:=zZ p
  show Rq (md false ((fA p++g7 ps).take (c+1))) (cV (p.take (c+1))++Ay ps (c+1 - (p.take (c+1)).length))
  by_cases q:p.length≤c+1
  ·have hh:((g7 ps).take (c+1-p.length)).head?≠some 10:=by
    have t:=Fz ps hps
    cases c+1-p.length with
    |zero=>exact nofun
    |succ k=>cases e:g7 ps with
     |nil=>exact nofun
     |cons a l=>rw[e]at t;exact t
   rw[List.take_append,List.take_of_length_le (by omega),List.take_of_length_le q,sl,nL,JU hh]
   exact hp.full _ _ (GA ps _ hps)
  ·rw[List.take_append_of_le_length (by omega),show c+1 - (p.take (c+1)).length=0 by rw[List.length_take];omega,nS,List.append_nil]
   exact hp.cut c (by omega)
theorem Nh:PlainW:=⟨fun p m=>m.elim fun n m=>m.elim fun T m=>m.2.2 ▸ (q0 n T).s,fun p m=>m.elim fun n m=>m.elim fun T m=>m.2.2 ▸ (q0 n T).ch,fun ps cut h=>match GA ps cut (fun p m=>(h p m).elim fun n m=>m.elim fun T m=>m.2.2▸q0 n T) .non with
 |⟨k,i,r⟩=>⟨k,i,r.run,(r.eqv []).trans (q5 ps [] cut).symm,Nat.le_trans r.sz (Nat.add_le_add_right (Nat.mul_le_mul_left 4 (wN ..)) 4)⟩⟩
end
section
noncomputable abbrev KK (P:Params)(K2:Frag):Frag:=Sm P++K2
noncomputable def Tc:V→Value
 |.dat (.boo b)=>.bool b
 |_=>.none
noncomputable def UD:V→Bool
 |.dat .non=>true
 |.dat (.boo _)=>true
 |_=>false
theorem GC {P:Params}{W:Wd}:∀ {ds:List V},ds.all UD=true→VRs P W ds (ds.map Tc)
 | [],_=>rfl
 |d::ds,h=>have q:=Bool.and_eq_true_iff.mp h;.mk (match d,q.1 with
  |.dat .non,_=>rfl
  |.dat (.boo _),_=>rfl) (GC q.2)
noncomputable def oL (x:Pl):Fn:=kL k8 x.2.1 x.2.2
structure FV where
 body:FuncBody
 clo:List (Str×Addr)
 glob:Addr
 blt:Addr
 co:Bool
 gen:Bool
 kind:ScopeKind
 names:aU
 cells:List Nm
 code:Value
 qual:Str
 kinds:List (Option NameKind)
noncomputable def Ni (x:Pl):Option FV:=(oE x).map fun fd=>⟨fd.body,fd.closure,fd.globals,fd.builtins,fd.scope.isCoroutine,fd.scope.isGenerator,fd.scope.kind,fd.scope.names,eV (oL x).names,fd.code,fd.qualname,(oL x).params.map fun y=>(oL x).names.lookup (st y)⟩
noncomputable def Re (g:Bool)(x:Pl):Option FV:=some ⟨.stmts (oL x).body,[],mainGlobals,builtinsNs,false,g,.function,(oL x).names,(oL x).cells,.ref (x.1-1),(nX x.2.1 k8.main.body).2,(oL x).params.map fun y=>some (match hW y (oL x).cells with|true=>.cell|false=>.local)⟩
noncomputable def GD:Pl:=(AS.1,AS.2,[])
theorem Nj:vU.map Ni=vU.map (Re false):=by kernel_rfl
theorem yB:Ni GD=Re true GD:=by kernel_rfl
theorem Rf:(vU.all fun x=>x.2.2.all UD&&Nat.ble (oL x).params.length 7)=true:=by kernel_rfl
theorem JV {K:Frag}{c:Nat}{q:Str}(h:tO K c=some q):codeIn K (.ref c) q=true:=by
 have g:codeIn K (.ref c) q=(match K.lookup c with|some ⟨_,_,.fields vs,_⟩=>(match vs.toList with|_::.str n _::_=>n==q|_=>false)|_=>false):=rfl
 unfold tO at h
 rw[g]
 cases e:K.lookup c with
 |none=>rw[e]at h;cases h
 |some o=>
  rw[e]at h
  obtain⟨_,_,d,_⟩:=o
  cases d with
  |fields vs=>
   replace h:(match vs.toList with|_::.str n _::_=>some n|_=>none)=some q:=h
   show(match vs.toList with|_::.str n _::_=>n==q|_=>false)=true
   match vs.toList,h with
   |_::.str n _::_,h=>cases h;exact beq_self_eq_true _
  |_=>cases h
section
variable {P:Params}{K2:Frag}
theorem Rg (P:Params)(K2:Frag):mK.map (fun x=>(KK P K2).lookup x.1)=mK.map fun x=>some (Jz x).2:=by kernel_rfl
theorem JW (P:Params)(K2:Frag):mK.map (fun x=>tO (KK P K2) (x.1-1))=Sn K2:=by kernel_rfl
noncomputable def Rh (k:Nat)(x:Pl):Bool:=Nat.ble k (oL x).params.length&&Nat.ble (oL x).params.length (k+x.2.2.length)
noncomputable def UE (K:Frag)(S:Setting)(f:Nat→Value)(k:Nat)(x:Pl):Option (List (Str×Value)):=(oE x).bind fun fd=>peek K S (bindArgs fd ⟨(List.range k).map f,[]⟩)
noncomputable def UG (f:Nat→Value)(k:Nat)(x:Pl):Option (List (Str×Value)):=some (BN (oL x).params ((List.range k).map f++(x.2.2.map Tc).drop (x.2.2.length - ((oL x).params.length-k))))
theorem JX (P:Params)(K2:Frag)(S:Setting)(f:Nat→Value):(List.range 8).map (fun k=>(vU.filter (Rh k)).map (UE (KK P K2) S f k))=(List.range 8).map fun k=>(vU.filter (Rh k)).map (UG f k):=by kernel_rfl
theorem GE (P:Params)(K2:Frag)(S:Setting)(v:Value):(oE GD).bind (fun fd=>peek (KK P K2) S (bindArgs fd ⟨[v],[]⟩))=some [(st hY,v)]:=by kernel_rfl
theorem JY (vals:List Value):vals=(List.range vals.length).map fun i=>vals[i]?.getD .none:=by
 refine List.ext_getElem (by rw[List.length_map,List.length_range]) fun i h1 h2=>?_
 rw[List.getElem_map,List.getElem_range,List.getElem?_eq_getElem h1];rfl
theorem GG {x:Pl}{fd:FuncData}(hx:x∈mK)(e:oE x=some fd):(KK P K2).lookup x.1=some ⟨.type "function",none,.func fd,#[]⟩:=by
 have h:=List.map_inj_left.mp (Rg P K2) x hx
 rw[h]
 show some (match oE x with|some fd=>_|none=>_)=_
 rw[e]
theorem Ri {x:Pl}{fd:FuncData}(hx:x∈mK)(e:oE x=some fd):fnIn (KK P K2) x.1=true:=by unfold fnIn;rw[GG hx e]
theorem KS {x:Pl}{g:Bool}(h:Ni x=Re g x):∃ fd,oE x=some fd:=by
 unfold Ni at h
 cases e:oE x with
 |none=>rw[e]at h;cases h
 |some fd=>exact⟨fd,rfl⟩
theorem GH {x:Pl}{g:Bool}{fd:FuncData}(h:Ni x=Re g x)(e:oE x=some fd):(⟨fd.body,fd.closure,fd.globals,fd.builtins,fd.scope.isCoroutine,fd.scope.isGenerator,fd.scope.kind,fd.scope.names,eV (oL x).names,fd.code,fd.qualname,(oL x).params.map fun y=>(oL x).names.lookup (st y)⟩:FV)=
  ⟨.stmts (oL x).body,[],mainGlobals,builtinsNs,false,g,.function,(oL x).names,(oL x).cells,.ref (x.1-1),(nX x.2.1 k8.main.body).2,(oL x).params.map fun y=>some (match hW y (oL x).cells with|true=>.cell|false=>.local)⟩:=by
 unfold Ni at h
 rw[e]at h
 exact Option.some.inj h
noncomputable abbrev wO (K2:Frag):Prop:=Sn K2=mK.map fun x=>some (nX x.2.1 k8.main.body).2
theorem AA {x:Pl}{fd:FuncData}{g:Bool}(hc:wO K2)(hx:x∈mK)(h:Ni x=Re g x)(e:oE x=some fd):codeIn (KK P K2) fd.code fd.qualname=true:=by
 have v:=GH h e
 rw[show fd.code=_ from congrArg FV.code v,show fd.qualname=_ from congrArg FV.qual v]
 exact JV (List.map_inj_left.mp ((JW P K2).trans hc) x hx)
theorem Rj (hc:wO K2){x:Pl}(hx:x∈vU):FnD P (KK P K2) x.1 (oL x):=by
 have hg:x∈mK:=.tail _ hx
 have h:=List.map_inj_left.mp Nj x hx
 obtain⟨fd,e⟩:=KS h
 have v:=GH h e
 have b:=Bool.and_eq_true_iff.mp (List.all_eq_true.mp Rf x hx)
 have hd:(oL x).dflt=x.2.2:=by
  unfold oL kL
  unfold oE at e
  cases q:y9 x.2.1 k8.main.body with
  |none=>rw[q]at e;cases e
  |some y=>rfl
 refine .mk _ fd (GG hg e) rfl (Ri hg e) ⟨AA hc hg h e,congrArg FV.body v,congrArg FV.clo v,congrArg FV.glob v,congrArg FV.blt v,congrArg FV.co v,congrArg FV.gen v,congrArg FV.kind v,congrArg FV.names v,congrArg FV.cells v,List.map_inj_left.mp (congrArg FV.kinds v)⟩ (x.2.2.map Tc) (by rw[hd];exact GC b.1) ?_
 rw[hd]
 intro s vals KI h1 h2
 have lt:vals.length<8:=Nat.lt_succ_of_le (Nat.le_trans h1 (Nat.le_of_ble_eq_true b.2))
 refine fun M A E Q q=>(Looks.of_peek (M:=M) KI ?_).here q
 have w:=List.map_inj_left.mp (List.map_inj_left.mp (JX P K2 ⟨M.prog,M.w.params⟩ fun i=>vals[i]?.getD .none) vals.length (List.mem_range.mpr lt)) x (List.mem_filter.mpr ⟨hx,Bool.and_eq_true_iff.mpr ⟨Nat.ble_eq_true_of_le h1,Nat.ble_eq_true_of_le h2⟩⟩)
 unfold UE UG at w
 rw[e,← JY]at w
 exact w
theorem Nk (hc:wO K2):∀ a F,(a,F)∈IC→FnD P (KK P K2) a F:=fun a F m=>by
 obtain⟨x,hx,q⟩:=List.mem_map.mp m
 cases q
 exact Rj hc hx
theorem GJ:gN.lookup (st hY)=some .local:=by kernel_rfl
theorem Az:eV gN=[]:=by kernel_rfl
theorem GK:(oL GD).body=gI.b:=by kernel_rfl
theorem Nl (hc:wO K2):GenD (KK P K2) 268 gN gI.b:=by
 have hx:GD∈mK:=.head _
 obtain⟨fd,e⟩:=KS yB
 have v:=GH yB e
 refine .mk _ fd (GG hx e) rfl ⟨AA hc hx yB e,(congrArg FV.body v).trans (congrArg FuncBody.stmts GK),congrArg FV.clo v,congrArg FV.glob v,congrArg FV.blt v,congrArg FV.co v,congrArg FV.gen v,congrArg FV.kind v,congrArg FV.names v,Az,GJ⟩ fun s v KI=>fun M A E Q q=>(Looks.of_peek (M:=M) KI ?_).here q
 have w:=GE P K2 ⟨M.prog,M.w.params⟩ v
 rw[e]at w
 exact w
end
end
section
structure MV where
 find:Option (Option Value)
 type:Option Value
 get:Option (Option Value)
 takes:Option Bool
 copied:Bool
structure CV where
 get:Bool
 dict:Bool
 over:Bool
 set:Option (Option Value)
 makes:Bool
 keep:Bool
 fields:List (Option (Option Value))
 meths:List MV
 consts:List MV
noncomputable def cU:V→Value
 |.dat (.int i)=>.int i 624
 |_=>.none
noncomputable def Uf (K:Frag)(c:Cl):CV:=⟨plainGet K c.adr Str.empty,hasDictIn K c.adr,plainOver K c.adr,findIn K (.ref c.adr) "__setattr__",makesIn K c.adr,keepIn K (.ref c.adr),c.fields.map fun x=>findIn K (.ref c.adr) (st x),
 c.meths.map fun m=>⟨findIn K (.ref c.adr) (st m.1),typeIn K (.ref m.2),specialIn K (.ref m.2) "__get__",takesIn K (.ref m.2),copiedNames.contains (st m.1)⟩,c.consts.map fun x=>⟨findIn K (.ref c.adr) (st x.1),none,specialIn K (cU x.2) "__get__",none,copiedNames.contains (st x.1)⟩⟩
noncomputable def Ug (c:Cl):CV:=⟨true,true,true,some (some (.builtin "object.__setattr__")),true,true,c.fields.map fun _=>some none,
 c.meths.map fun m=>⟨some (some (.ref m.2)),some (.type "function"),some (some (.builtin "function.__get__")),some false,false⟩,c.consts.map fun x=>⟨some (some (cU x.2)),none,some none,none,false⟩⟩
theorem Nn (P:Params)(K2:Frag):rC.cls.map (Uf (KK P K2))=rC.cls.map Ug:=by kernel_rfl
theorem BA:(rC.cls.map fun c=>c.consts.map (·.2)).flatten=[.dat (.int 10240)]:=by kernel_rfl
theorem lY {α:Type}{x:Nm}{v:α}:∀ {l:List (Nm×α)},lk l x=some v→(x,v)∈l
 | [],h=>nomatch h
 |(y,u)::l,h=>(sZ h).elim (fun q=>q.1▸q.2 ▸ .head _) fun q=>.tail _ (lY q.2)
section
variable {P:Params}{K2:Frag}
theorem Rk {c:Cl}(hc:c∈rC.cls):ClOk P (KK P K2) c.adr c:=by
 have h:=List.map_inj_left.mp (Nn P K2) c hc
 refine⟨congrArg CV.get h,congrArg CV.dict h,congrArg CV.over h,congrArg CV.set h,congrArg CV.makes h,congrArg CV.keep h,fun x hx=>?_,fun m f hm=>?_,fun x v hx=>?_⟩
 ·obtain⟨y,hy,e⟩:=List.any_eq_true.mp hx
  rw[← iH e]
  exact List.map_inj_left.mp (congrArg CV.fields h) y hy
 ·have q:=List.map_inj_left.mp (congrArg CV.meths h) _ (lY hm)
  exact⟨congrArg MV.find q,congrArg MV.type q,congrArg MV.get q,congrArg MV.takes q,congrArg MV.copied q⟩
 ·have hm:=lY hx
  have q:=List.map_inj_left.mp (congrArg CV.consts h) _ hm
  have e:v∈(rC.cls.map fun c=>c.consts.map (·.2)).flatten:=List.mem_flatten.mpr ⟨_,List.mem_map.mpr ⟨c,hc,rfl⟩,List.mem_map.mpr ⟨_,hm,rfl⟩⟩
  rw[BA]at e
  cases List.mem_singleton.mp e
  exact .mk _ (congrArg MV.find q) (congrArg MV.get q) rfl (congrArg MV.copied q) (.mk 624)
noncomputable def nsE (K:Frag)(a:Nat):Array DictEntry:=match K.lookup a with
 |some ⟨_,_,.dict en _,_⟩=>en
 |_=>#[]
theorem AB {en:Array DictEntry}(h:en.toList.all vW=true):StrKeys en:=fun e m=>by
 have q:=List.all_eq_true.mp h e (Array.mem_toList_iff.mpr m)
 unfold vW at q
 cases k:e.key with
 |str n t=>exact⟨n,t,rfl⟩
 |_=>rw[k]at q;cases q
theorem q7 {en:Array DictEntry}{n:Str}{u:Option Value}(h:rA n en.toList=u):nsFind en n=u:=(pK n en.toList).trans h
noncomputable def Td {R:List Value→Prop}(K:Frag)(c:String)(f:(vs:List Value)→Mb (R vs))(a:Nat):Mb (IsSeq (W0 K).fz c R (.ref a)):=match e:K.lookup a with
 |some ⟨.type d,none,.seq ⟨vs⟩ n,⟨[]⟩⟩=>match String.decEq d c with
  |.isTrue h=>(f vs).tkn fun r=>.ok (.mk a vs n (h▸e) r)
  |.isFalse _=>.no
 |_=>.no
mutual
noncomputable def dM (P:Params)(K:Frag):(d:D)→(v:Value)→Mb (DR P (W0 K).fz d v)
 |.non,.none=>.ok rfl
 |.int i,.int j t=>.gvn (rB i j) fun e=>.ok (eq_of_beq ((eQ i j).trans e) ▸ .mk t)
 |.str x,.str s t=>.gvn (nb s.cps.toList x) fun e=>.ok (iH e ▸ .mk t)
 |.tup ds,.ref a=>Td K "tuple" (UH P K ds) a
 |_,_=>.no
noncomputable def UH (P:Params)(K:Frag):(ds:List D)→(vs:List Value)→Mb (DRs P (W0 K).fz ds vs)
 | [],[]=>.ok rfl
 |d::ds,v::vs=>(dM P K d v).tkn fun a=>(UH P K ds vs).tkn fun r=>.ok (.mk a r)
 |_,_=>.no
end
noncomputable def vM (P:Params)(K:Frag):(v:V)→(u:Value)→Mb (VR P (W0 K) v u)
 |.top a,.ref b=>.gvn (Nat.beq b a) fun e=>.ok (congrArg Value.ref (Nat.eq_of_beq_eq_true e))
 |.dat d,u=>dM P K d u
 |_,_=>.no
noncomputable def wP:V→Bool
 |.dat (.dct _)=>true
 |_=>false
noncomputable abbrev UI:Nm:=[116,111,107,101,110,84,121,112,101,115]
theorem JZ:rC.glob.filter (fun x=>wP x.2)=[(UI,.dat jL)]:=by kernel_rfl
noncomputable def Uh (P:Params):List DictEntry:=(nsE (Pf P) 48).toList
theorem iO {P:Params}{fz:Addr→Option Obj}{x:Nm}{i:Int}{n:String}{t t':Nat}(h:Str.ofString n=st x):Ent P x (DR P fz (.int i)) (ke P n t (.int i t')):=.mk _ t (congrArg (PyData.keyHash P) h) (congrArg (fun s=>Value.str s t) h) (.mk t')
theorem Rl (P:Params)(K2:Frag):DR P (W0 (KK P K2)).fz jL (.ref 48):=.mk 48 (Uh P) 8 (by kernel_rfl)
 (.mk (iO (by kernel_rfl)) (.mk (iO (by kernel_rfl)) (.mk (iO (by kernel_rfl)) (.mk (iO (by kernel_rfl)) (.mk (iO (by kernel_rfl)) (.mk (iO (by kernel_rfl)) (.mk (iO (by kernel_rfl)) (.mk (iO (by kernel_rfl)) rfl))))))))
theorem No (P:Params)(K2:Frag):(rC.glob.all fun x=>wP x.2||match rA (st x.1) (nsE (KK P K2) 3).toList with
 |some u=>(vM P (KK P K2) x.2 u).yes
 |none=>false)=true:=by kernel_rfl
theorem Rm (P:Params)(K2:Frag):rA (st UI) (nsE (KK P K2) 3).toList=some (.ref 48):=by kernel_rfl
theorem AC (P:Params)(K2:Frag):(KK P K2).lookup mainGlobals=some ⟨.type "dict",none,.dict (nsE (KK P K2) 3) 49,#[]⟩:=by kernel_rfl
theorem Np (P:Params)(K2:Frag):(nsE (KK P K2) 3).toList.all vW=true:=by kernel_rfl
theorem Nq (P:Params)(K2:Frag):rC.blts.map (fun x=>rA (st x.1) (nsE (KK P K2) 3).toList)=rC.blts.map fun _=>none:=by kernel_rfl
theorem Nr (P:Params)(K2:Frag):(KK P K2).lookup builtinsNs=K2.lookup builtinsNs:=by kernel_rfl
noncomputable def Te (P:Params)(K:Frag):(v:V)→Mb (VR P (W0 K) v (AW v))
 |.blt _=>.ok rfl
 |.typ _=>.ok rfl
 |_=>.no
theorem Rn (P:Params)(K:Frag):(rC.blts.all fun x=>(Te P K x.2).yes)=true:=by kernel_rfl
noncomputable abbrev Ja (K2:Frag):Prop:=Lq K2=(true,rC.blts.map fun x=>some (AW x.2))
theorem Nt (h:Ja K2):NsK (KK P K2) builtinsNs fun es=>∀ x v,lk rC.blts x=some v→∃ u,nsFind es (st x)=some u∧VR P (W0 (KK P K2)) v u:=by
 unfold Ja Lq at h
 cases e:K2.lookup builtinsNs with
 |none=>rw[e]at h;cases congrArg (·.1) h
 |some o=>
  rw[e]at h
  obtain⟨c,d,dt,sl⟩:=o
  cases dt with
  |dict en n=>
   replace h:(en.toList.all vW,rC.blts.map fun x=>rA (st x.1) en.toList)=(true,rC.blts.map fun x=>some (AW x.2)):=h
   have h2:rC.blts.map (fun x=>rA (st x.1) en.toList)=rC.blts.map fun x=>some (AW x.2):=congrArg (·.2) h
   exact .mk _ en n ((Nr P K2).trans e) rfl (AB (congrArg (·.1) h)) fun x v hx=>have q:rA (st x) en.toList=some (AW v):=List.map_inj_left.mp h2 (x,v) (lY hx);⟨_,q7 q,Mb.out (List.all_eq_true.mp (Rn P (KK P K2)) _ (lY hx))⟩
  |_=>cases congrArg (·.1) h
theorem Nu (P:Params)(K2:Frag):(KK P K2).lookup cStatics=some ⟨.none,none,.dict #[] 0,#[]⟩:=by kernel_rfl
theorem Nv (h:Ja K2):Top P (KK P K2) rC:=⟨fun _ hc=>Rk hc,.mk _ _ 49 (AC P K2) rfl (AB (Np P K2)) ⟨fun x v hx=>by
  have m:=lY hx
  cases d:wP v with
  |true=>
   have q:(x,v)∈rC.glob.filter (fun x=>wP x.2):=List.mem_filter.mpr ⟨m,d⟩
   rw[JZ]at q
   cases List.mem_singleton.mp q
   exact⟨_,q7 (Rm P K2),Rl P K2⟩
  |false=>
   have q:(wP v||match rA (st x) (nsE (KK P K2) 3).toList with|some u=>(vM P (KK P K2) v u).yes|none=>false)=true:=List.all_eq_true.mp (No P K2) _ m
   rw[d]at q
   cases e:rA (st x) (nsE (KK P K2) 3).toList with
   |none=>rw[e]at q;cases q
   |some u=>rw[e]at q;exact⟨u,q7 e,Mb.out q⟩,fun x v hx=>have q:rA (st x) _=none:=List.map_inj_left.mp (Nq P K2) (x,v) (lY hx);q7 q⟩,Nt h,.mk _ _ 0 (Nu P K2) rfl (fun _ m=>nomatch Array.mem_toList_iff.mpr m) rfl⟩
end
end
section
theorem wQ {R:WRecords}:∀ {xs:List WData},WShape.hasItems R xs .int=true→∃ ns:List Int,xs=ns.map WData.int
 | [],_=>⟨[],rfl⟩
 |x::xs,h=>by
  have h:(WShape.has R x .int&&WShape.hasItems R xs .int)=true:=h
  have q:=Bool.and_eq_true_iff.mp h
  obtain⟨ns,rfl⟩:=wQ q.2
  cases x with
  |int i=>exact⟨i::ns,rfl⟩
  |_=>exact(Bool.false_ne_true q.1).elim
theorem GL {d:WData}(h:WShape.has [] d (.list .int)=true):∃ ns:List Int,d=.list (ns.map WData.int):=by
 cases d with
 |list xs=>
  have h:(WShape.hasItems [] xs .int||false)=true:=h
  rw[Bool.or_false]at h
  exact(wQ h).elim fun ns e=>⟨ns,congrArg WData.list e⟩
 |_=>exact(Bool.false_ne_true h).elim
noncomputable def Tf (b:Bool):Bool:=WTm.holds [] (.and (.not (.lit (.bool b))) (.lit (.bool true))) {args:=[]}
theorem Jb (ns:List Int):(PySem.Challenge.rw_te0044_04.pre).holds [] {args:=[.list (ns.map WData.int)]}=Tf (decide ((63:Int) < ((ns.map WData.int).length:Int))):=by kernel_rfl
theorem GN {args:List WData}(h:PySem.Challenge.rw_te0044_04.row.toRowW.claim.pre args=true):∃ ns:List Int,args=[.list (ns.map WData.int)]∧ns.length≤63:=by
 obtain⟨h1,h2⟩:=pre_splitW h
 obtain⟨d,r,rfl,h3,h4⟩:=hasAllW_cons (R:=[]) (e:=.list .int) (es:=[]) h1
 obtain rfl:=hasAllW_nil h4
 obtain⟨ns,rfl⟩:=GL h3
 refine⟨ns,rfl,Nat.le_of_not_lt fun q=>?_⟩
 have h2:(PySem.Challenge.rw_te0044_04.pre).holds [] {args:=[.list (ns.map WData.int)]}=true:=h2
 have e:(63:Int) < (ns.length:Int):=Int.ofNat_lt.mpr q
 rw[Jb,List.length_map,decide_eq_true e]at h2
 exact Bool.false_ne_true h2
theorem sV {P:Params}{h:Heap}{fz:Addr→Option Obj}:∀ {ns:List Int} {vs:List Value},WellAll P h vs (ns.map WData.int)→DRs P fz (f6 ns) vs
 | [],vs,x=>by cases x;rfl
 |n::ns,vs,x=>by
  obtain⟨v,vs',rfl,y,z⟩:=wellAll_cons_inv x
  exact .mk (by cases y;exact .mk _) (sV z)
theorem q8:∀ ns:List Int,ofPys (ns.map PyData.int)=ns.map WData.int
 | []=>by simp[ofPys]
 |n::ns=>by simp[ofPys,ofPy,q8 ns]
theorem GO {s₀ s₁:Shared}{n a:Nat}{args:List WData}{vals:List Value}{as:List Addr}{c:Cx}(hp:c.prog=k8)(L:Laid Ru.row.toRowW.records c.w s₀ s₁ args vals as)(hpre:Ru.row.toRowW.claim.pre args=true)(hwl:WellAll c.w.params s₁.heap vals args)
  (X:c.K.In s₁.heap)(ht:0<s₀.toks)(hn:n≤50)(walk:∀ ns:List Int,ns.length≤1000→CallOk c n a [.dat (.lst (f6 ns))] [] (.dat (.boo true)) []):
  wpAny (model k8 c.w) callerA (PySem.call (.ref a) vals) (fun v s'=>GoodWG Ru.row.toRowW.claim (classAt s₀.heap) (ExcName.means s₀.heap) args s₁ (.ok (.ret v)) s')
   (fun e s'=>GoodWG Ru.row.toRowW.claim (classAt s₀.heap) (ExcName.means s₀.heap) args s₁ (.error e) s') s₁:=by
 refine enter_call ?_
 obtain⟨ns,rfl,hlen⟩:=GN hpre
 obtain⟨v,vs',rfl,y,z⟩:=wellAll_cons_inv hwl
 obtain rfl:vs'=[]:=by cases z;rfl
 obtain⟨sa,vs,rfl,hsa,hvs⟩:∃ sa vs,v=.ref sa∧s₁.heap.get? sa=some {cls:=.type "list",data:=.seq (List.toArray vs)}∧WellAll c.w.params s₁.heap vs (ns.map WData.int):=by
  cases y with
  |list h1 h2=>exact⟨_,_,rfl,h1,h2⟩
 let W:Wd:=⟨0,fun _=>0,fun b=>if b=sa then some {cls:=.type "list",data:=.seq (List.toArray vs)}else c.K.lookup b⟩
 have le:∀ b o,c.K.lookup b=some o→W.fz b=some o:=fun b o e=>by
  show(if b=sa then _ else _)=_
  by_cases q:b=sa
  ·subst q
   have:=X _ _ e
   rw[hsa]at this
   rw[if_pos rfl];exact this
  ·rw[if_neg q];exact e
 have R:Rel c.w.params W [] s₁.heap:=⟨rfl,fun l o v=>(nomatch v.e),fun l o v=>(nomatch v.e),fun _ _ _ _ v=>(nomatch v.e),fun b o e=>by
  have e:(if b=sa then some {cls:=.type "list",data:=.seq (List.toArray vs)}else c.K.lookup b)=some o:=e
  by_cases q:b=sa
  ·rw[if_pos q]at e;rw[q,hsa];exact e
  ·rw[if_neg q]at e;exact X _ _ e⟩
 have ht1:0<s₁.toks:=by
  have e:[WData.list (ns.map WData.int)]=[ofPy (PyData.list (ns.map PyData.int))]:=by rw[ofPy,q8]
  have L':=L
  rw[e]at L'
  exact Nat.lt_of_lt_of_le ht (PySem.W.X.script_toks L' rfl)
 have c1:callerA.depth≤301:=by decide+kernel
 have c2:callerA.units≤4:=by decide+kernel
 have Z:At c n callerA W [] s₁:=⟨⟨rfl,by omega,by omega⟩,R,le,ht1⟩
 have hv:VRs c.w.params W [.dat (.lst (f6 ns))] [.ref sa]:=.mk (.mk sa vs 0 (if_pos rfl) (sV hvs)) rfl
 have q:=(walk ns (by omega)).run callerA W s₁ _ Z hv
 unfold Cx.M at q
 rw[hp]at q
 refine codeAny_mono q fun r s' ⟨u,p⟩=>?_
 obtain⟨W',R',E',x⟩:=p
 cases(show u=.bool true from x)
 have no:∀ b,¬ Live W [] b:=fun b=>fun⟨l,o,v,_⟩=>nomatch v.e
 refine⟨.inl ⟨.bool true,.bool true,[],rfl,fun cls=>rfl,.bool _,?_,fun _=>⟨List.nodup_nil,fun _ h=>nomatch h⟩⟩,.of_keep fun b o e=>(E'.e.at_ b o e).keep (no b),E'.o,?_⟩
 ·show(WShape.has [] (.bool true) .bool&&(WTm.eq .res (.lit (.bool true))).holds [] {args:=[.list (ns.map WData.int)],res:=some (.bool true),after:=[]})=true
  kernel_rfl
 ·have g:=E'.g
  rw[L.gens]at g
  exact fun y hy=>(Array.mem_iff_getElem?.mp hy).elim fun i e=>g.bare i y (Nat.zero_le _) e
theorem Nw:(OpenRow.toRowW PySem.Challenge.rw_te0044_04.row).promised:=⟨[.list [.int 3]],by decide+kernel,by decide+kernel⟩
theorem Jc (as bs:List Nat)(s:Shared):oX (as++bs) s=oX as s++oX bs s:=List.filterMap_append
theorem Ny (P:Params)(K2:Frag):rA PySem.Challenge.rw_te0044_04.row.name (nsE (KK P K2) 3).toList=some (.ref 912):=by kernel_rfl
noncomputable def q9:DefRec×List (Str×Expr):=(defOf KA PySem.Challenge.rw_te0044_04.row.name).getD (⟨st [],⟨[],[],none,[],[],none,[]⟩,[],default,uX⟩,[])
theorem Ro:defOf KA PySem.Challenge.rw_te0044_04.row.name=some (q9.1,q9.2):=by kernel_rfl
theorem Rp:PySem.Challenge.rw_te0044_04.row.prog.theDef PySem.Challenge.rw_te0044_04.row.name=some (q9.1.params,q9.1.body,q9.1.scope):=by kernel_rfl
theorem Tg:kwWritten? q9.1.params.kwonlyargs q9.1.params.kw_defaults=some q9.2:=by kernel_rfl
theorem Th:q9.1.name=PySem.Challenge.rw_te0044_04.row.name:=by kernel_rfl
theorem join04:PySem.Challenge.rw_te0044_04.Holds:=by
 refine holds_law Lu fun said=>?_
 refine holds_openX (r:=PySem.Challenge.rw_te0044_04.row) (q:=KA) (loose:=k9) (Xt:=fun _=>true) (XP:=fun _ _=>True) (Yf:=fun s=>zC (oX Cj s) (oX rI s) s.toks) (Ya:=tP) (d:=q9.1) (kwd:=q9.2) (N:=20000) Ls (fun _ _=>trivial) (fun _ _ _ _ _=>trivial) Ro Rp Tg (fun s _=>recFacts_of rfl) rfl said (by decide+kernel) ⟨rfl,rfl,rfl,rfl,rfl,by decide+kernel⟩ Nw ?_
 intro w s₀ s₁ mg mb G Y fa o pm cd doc dV kV ho hd hcd hD hmg hg args vals as L hpre hlay hrd hwl hlo
 have hK:oX Cj s₀=Sm w.params:=congrArg (·.1) Y
 have hC:wO (oX rI s₀):=congrArg (·.2.1) Y
 have hB:Ja (oX rI s₀):=congrArg (·.2.2.1) Y
 have ht:0<s₀.toks:=Nat.le_of_ble_eq_true (congrArg (·.2.2.2) Y)
 have X:(KK w.params (oX rI s₀)).In s₁.heap:=fun b o e=>by
  rw[KK,← hK,← Jc]at e
  exact L.keeps _ _ (Ln e)
 have hfa:fa=912:=by
  obtain⟨o',es',ep',b1,b2,b3,b4⟩:=G.T.g
  have e:=X _ _ (AC w.params (oX rI s₀))
  rw[b1]at e
  cases e
  cases b2
  have y:=(b4 PySem.Challenge.rw_te0044_04.row.name).symm.trans (q7 (Ny w.params (oX rI s₀)))
  rw[Th]at hmg
  exact Value.ref.inj (Option.some.inj (hmg.symm.trans y))
 subst hfa
 exact GO (n:=18) (c:=Zc.c (p:=k8) (G:=rC) (tl:=IC) ⟨w,KK w.params (oX rI s₀),Nv hB,Nk hC⟩) rfl L hpre hwl X ht (by decide) fun ns hn=>RN _ (Nl hC) Nh hn
end
end Tk
theorem PySem.Challenge.cw_te0044_04_holds : PySem.Challenge.rw_te0044_04.Holds :=
  Tk.join04
