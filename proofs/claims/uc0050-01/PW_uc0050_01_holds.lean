import PyProof.Rows.All
import KE.BitLaws
import KE.IntBitsLaws
import KE.KNest
import KE.KRevIter
import OpenK.AllK
import PyProof.Draws
import PyProof.GenObj
import PyProof.GenQ
import PyProof.ListRange
import PyProof.Rows.Range3
import PyProof.Rows.SetFrom
import Wide.All
import Lean
import PySem.Challenge.RW_uc0050_01
set_option Elab.async false
set_option maxRecDepth 100000
set_option maxHeartbeats 4000000
set_option linter.unusedVariables false
set_option linter.unusedSimpArgs false
set_option genInjectivity false
set_option genSizeOf false
set_option bootstrap.genMatcherCode false
set_option compiler.extract_closed false
namespace Mine
section
open PySem PySem.Spec PySem.Calls PyProof.Rows PySem.W
inductive V where
 |none
 |bool (b:Bool)
 |int (i:Int)
 |str (s:Str)
 |lst (a:Addr)
 |fn (a:Addr)
 |tup (l:List V)
 |rl (l:List Int)
 deriving Inhabited
structure St where
 vars:Nat→Option V
 lists:Addr→Option (List V)
 ro:Addr→Option Obj
theorem St.ext' {σ τ:St} (h1:σ.vars=τ.vars) (h2:σ.lists=τ.lists) (h3:σ.ro=τ.ro):σ=τ:=
 show St.mk σ.vars σ.lists σ.ro=St.mk τ.vars τ.lists τ.ro by rw[h1,h2,h3]
noncomputable abbrev PT (α:Type):=(α→St→Prop)→St→Prop
structure Ctx where
 prog:Program
 w:World
 base:Heap
 tabs:List Addr
 tabOk:Heap→Prop
 os:OsState
 script:Addr
 scr:List Int
 gOk:Array GenState→Prop
noncomputable def CodeLike (o:Obj):Prop:= ∃vs q t,o.data= .fields vs∧vs[1]? =some (.str q t)
section
variable (C:Ctx)
mutual
noncomputable def RelV (h:Heap):V→Value→Prop
 | .none,v=>v= .none
 | .bool b,v=>v= .bool b
 | .int i,v=> ∃t,v= .int i t
 | .str s,v=> ∃t,v= .str s t
 | .lst a,v=>v= .ref a
 | .fn a,v=>v= .ref a
 | .tup l,v=> ∃a items,v= .ref a∧IsTup h a items∧RelVs h l items.toList
 | .rl l,v=>v= .ref C.script∧l=C.scr
noncomputable def RelVs (h:Heap):List V→List Value→Prop
 |[],vs=>vs=[]
 |x::xs,vs=> ∃v r,vs=v::r∧RelV h x v∧RelVs h xs r
end
structure EnvOk (env:Env):Prop where
 kind:env.scope.kind= .function
 globals:env.globals=mainGlobals
 builtins:env.builtins=builtinsNs
 nodup:(env.scope.names.map (·.1)).Nodup
 fresh:C.base.get? env.locals=none
 apart:env.cells.Pairwise fun x y=>x.2≠y.2
 cfresh: ∀x c,(x,c)∈env.cells→C.base.get? c=none
 own: ∀x,env.scope.names.lookup x=some .cell→ ∃c,env.cells.lookup x=some c
structure BaseOk (s:Shared):Prop where
 keep: ∀b o,C.base.get? b=some o→b∉C.tabs→s.heap.get? b=some o
 tab:C.tabOk s.heap
 os:s.os=C.os
inductive VarAt (env:Env) (h:Heap) (m:Str→Option Value) (i:Nat) (v:V):Prop
 |mk (x:Str) (k:NameKind) (e:env.scope.names[i]? =some (x,k)) (val:Value) (r:RelV C h v val) (l:k= .local→m x=some val) (c:k≠ .local→ ∃c,env.cells.lookup x=some c∧h.IsCell c (some val))
inductive ListAt (h:Heap) (a:Addr) (xs:List V):Prop
 |mk (items:Array Value) (l:h.PlainList a items) (r:RelVs C h xs items.toList) (b:C.base.get? a=none)
inductive RoAt (env:Env) (σ:St) (h:Heap) (a:Addr) (o:Obj):Prop
 |mk (e:h.get? a=some o) (n:a≠env.locals) (c: ∀x,env.cells.lookup x≠some a) (l:σ.lists a=none) (b:C.base.get? a=none)
structure Rel (env:Env) (σ:St) (s:Shared):Prop where
 base:BaseOk C s
 bare:C.gOk s.gens
 vars: ∃m,s.heap.Ns env.locals m∧ ∀i v,σ.vars i=some v→VarAt C env s.heap m i v
 lists: ∀a xs,σ.lists a=some xs→ListAt C s.heap a xs
 cells: ∀x c,env.cells.lookup x=some c→ ∃v,s.heap.IsCell c v
 ro: ∀a o,σ.ro a=some o→RoAt C env σ s.heap a o
noncomputable def XE (σ:St) (b:Addr):Prop:=(σ.lists b).isSome=true∨b∈C.tabs
noncomputable def XS (env:Env) (σ:St) (b:Addr):Prop:=XE C σ b∨b=env.locals∨(∃x,env.cells.lookup x=some b∧env.kindOf x=some .cell)
structure Step (X:Addr→Prop) (σ σ':St) (s s':Shared):Prop where
 kept: ∀b o,s.heap.get? b=some o→ ¬X b→s'.heap.get? b=some o
 there: ∀b o,s.heap.get? b=some o→ ∃o',s'.heap.get? b=some o'
 dom: ∀a o,s.heap.get? a=some o→σ.lists a=none→σ'.lists a=none
 mono: ∀a,(σ.lists a).isSome=true→(σ'.lists a).isSome=true
 rod: ∀a o,s.heap.get? a=some o→σ'.ro a=σ.ro a∨ ∃o',σ'.ro a=some o'∧CodeLike o'
structure Lim (k:Nat) (A:Around):Prop where
 handled:A.handled=none
 depth:A.depth+k≤900
 units:A.units+12*k≤9000
end
section
variable {C:Ctx}
theorem Step.refl {X:Addr→Prop} {σ:St} {s:Shared}:Step X σ σ s s:=⟨fun _ _ e _=>e,fun _ o e=>⟨o,e⟩,fun _ _ _ e=>e,fun _ e=>e,fun _ _ _=> .inl rfl⟩
theorem Step.trans {X Y Z:Addr→Prop} {σ σ₁ σ₂:St} {s s₁ s₂:Shared} (h₁:Step X σ σ₁ s s₁) (h₂:Step Y σ₁ σ₂ s₁ s₂)
  (hx: ∀b,X b→Z b) (hy: ∀b o,s.heap.get? b=some o→Y b→Z b):Step Z σ σ₂ s s₂:=
 ⟨fun b o e nz=>h₂.kept b o (h₁.kept b o e fun x=>nz (hx b x)) fun y=>nz (hy b o e y),
   fun b o e=>let ⟨o',e'⟩:=h₁.there b o e;h₂.there b o' e',
   fun a o e l=>let ⟨o',e'⟩:=h₁.there a o e;h₂.dom a o' e' (h₁.dom a o e l),fun a e=>h₂.mono a (h₁.mono a e),fun a o e=>let ⟨o',e'⟩:=h₁.there a o e;(h₂.rod a o' e').elim (fun q=>(h₁.rod a o e).elim (fun r=> .inl (q.trans r)) fun ⟨o₁,r,c⟩=> .inr ⟨o₁,q.trans r,c⟩) .inr⟩
theorem XE_back {σ σ₁:St} {s s₁:Shared} {X:Addr→Prop} (h₁:Step X σ σ₁ s s₁) {b:Addr} {o:Obj} (e:s.heap.get? b=some o) (x:XE C σ₁ b):XE C σ b:=by
 rcases x with x|x
 ·cases q:σ.lists b with
  |none=>rw[h₁.dom b o e q] at x;cases x
  |some l=>exact .inl (by rw[q];rfl)
 ·exact .inr x
theorem Step.transE {σ σ₁ σ₂:St} {s s₁ s₂:Shared} (h₁:Step (XE C σ) σ σ₁ s s₁) (h₂:Step (XE C σ₁) σ₁ σ₂ s₁ s₂):Step (XE C σ) σ σ₂ s s₂:=
 h₁.trans h₂ (fun _ x=>x) fun _ _ e y=>XE_back h₁ e y
theorem IsTup.kept {h h':Heap} {a:Addr} {items:Array Value} (x:IsTup h a items) (k: ∀o,h.get? a=some o→h'.get? a=some o):IsTup h' a items:=
 let ⟨o,e,r⟩:=x;⟨o,k o e,r⟩
theorem RelV.kept {h h':Heap} (k: ∀a items,IsTup h a items→IsTup h' a items) {x:V} {v:Value} (r:RelV C h x v):RelV C h' x v:=
 V.rec (motive_1:=fun x=> ∀v,RelV C h x v→RelV C h' x v) (motive_2:=fun xs=> ∀vs,RelVs C h xs vs→RelVs C h' xs vs)
  (fun _ e=>e) (fun _ _ e=>e) (fun _ _ e=>e) (fun _ _ e=>e) (fun _ _ e=>e) (fun _ _ e=>e)
  (fun l ih v e=>e.elim fun a e=>e.elim fun items e=>⟨a,items,e.1,k a items e.2.1,ih _ e.2.2⟩) (fun _ _ e=>e)
  (fun _ e=>e) (fun x xs i j vs e=>e.elim fun v e=>e.elim fun r e=>⟨v,r,e.1,i _ e.2.1,j _ e.2.2⟩) x v r
theorem RelVs.kept {h h':Heap} (k: ∀a items,IsTup h a items→IsTup h' a items) {xs:List V} {vs:List Value} (r:RelVs C h xs vs):RelVs C h' xs vs:=by
 induction xs generalizing vs with
 |nil=>exact r
 |cons x xs ih=>exact r.elim fun v e=>e.elim fun w e=>⟨v,w,e.1,RelV.kept k e.2.1,ih e.2.2⟩
end
structure CtxOk (C:Ctx):Prop where
 base: ∀b∈C.tabs,∃o,C.base.get? b=some o
 none: ∀h,C.tabOk h→ ∀b∈C.tabs,∃o,h.get? b=some o∧o.cls= .none
 kept: ∀h h',C.tabOk h→(∀b o,h.get? b=some o→(b∈C.tabs∨CodeLike o)→h'.get? b=some o)→C.tabOk h'
noncomputable def Grow (h h':Heap):Prop:= ∀b o,h.get? b=some o→h'.get? b=some o
theorem Grow.refl {h:Heap}:Grow h h:=fun _ _ e=>e
theorem Grow.trans {h h' h'':Heap} (a:Grow h h') (b:Grow h' h''):Grow h h'':=fun x o e=>b x o (a x o e)
theorem Grow.push {h:Heap} (o:Obj):Grow h (h.push o):=fun _ _ e=>Heap.get?_push_of_some _ e
section
variable {C:Ctx} {env:Env} {σ σ':St} {s s':Shared}
theorem Grow.tup {h h':Heap} (g:Grow h h') (a:Addr) (items:Array Value) (x:IsTup h a items):IsTup h' a items:=IsTup.kept x (g a)
theorem Grow.rel {h h':Heap} (g:Grow h h') {x:V} {v:Value} (r:RelV C h x v):RelV C h' x v:=RelV.kept g.tup r
theorem Grow.rels {h h':Heap} (g:Grow h h') {x:List V} {v:List Value} (r:RelVs C h x v):RelVs C h' x v:=RelVs.kept g.tup r
theorem Grow.list {h h':Heap} (g:Grow h h') {a:Addr} {items:Array Value} (x:h.PlainList a items):h'.PlainList a items:=x.imp fun _ e=>g _ _ e
theorem Grow.ns {h h':Heap} (g:Grow h h') {a:Addr} {m:Str→Option Value} (x:h.Ns a m):h'.Ns a m:=x.imp fun _ x=>x.imp fun _ x=>x.imp fun _ x=>x.imp_left (g _ _)
theorem Grow.cell {h h':Heap} (g:Grow h h') {a:Addr} {v:Option Value} (x:h.IsCell a v):h'.IsCell a v:=x.imp fun _ x=>x.imp_left (g _ _)
theorem VarAt.move {h h':Heap} {m:Str→Option Value} {i:Nat} {v:V} (x:VarAt C env h m i v) (g: ∀{x:V} {v:Value},RelV C h x v→RelV C h' x v) (c: ∀{y:Str} {c:Addr} {v:Option Value},env.cells.lookup y=some c→h.IsCell c v→h'.IsCell c v):VarAt C env h' m i v:=
 x.casesOn fun x k e val r l q=>⟨x,k,e,val,g r,l,fun n=>(q n).imp fun _ z=>⟨z.1,c z.1 z.2⟩⟩
theorem VarAt.on {h:Heap} {m:Str→Option Value} {i:Nat} {d:V} {x:Str} {k:NameKind} {P:Prop} (v:VarAt C env h m i d) (hi:env.scope.names[i]? =some (x,k))
  (f: ∀val,RelV C h d val→(k= .local→m x=some val)→(k≠ .local→ ∃c,env.cells.lookup x=some c∧h.IsCell c (some val))→P):P:=by
 cases v with
 |mk x' k' e val r l c=>
  cases Option.some.inj (hi.symm.trans e)
  exact f val r l c
theorem ListAt.grow {h h':Heap} {a:Addr} {xs:List V} (x:ListAt C h a xs) (g:Grow h h'):ListAt C h' a xs:=x.casesOn fun items l r b=>⟨items,g.list l,g.rels r,b⟩
theorem RoAt.move {h h':Heap} {a:Addr} {o:Obj} (x:RoAt C env σ h a o) (g:h.get? a=some o→a≠env.locals→(∀x,env.cells.lookup x≠some a)→h'.get? a=some o) (l:σ.lists a=none→σ'.lists a=none):RoAt C env σ' h' a o:=x.casesOn fun e n c z b=>⟨g e n c,n,c,l z,b⟩
theorem Rel.keep (R:Rel C env σ s): ∀b o,C.base.get? b=some o→b∉C.tabs→s.heap.get? b=some o:=R.base.keep
theorem Rel.tab (R:Rel C env σ s):C.tabOk s.heap:=R.base.tab
theorem Rel.os (R:Rel C env σ s):s.os=C.os:=R.base.os
theorem BaseOk.grow (K:CtxOk C) (R:BaseOk C s) {h':Heap} {tk:Nat} (g:Grow s.heap h'):BaseOk C {s with heap:=h',toks:=tk}:=⟨fun b o e n=>g b o (R.keep b o e n),K.kept _ _ R.tab fun b o e _=>g b o e,R.os⟩
theorem Rel.grow (K:CtxOk C) (R:Rel C env σ s) {h':Heap} {tk:Nat} (g:Grow s.heap h'):Rel C env σ {s with heap:=h',toks:=tk}:=
 ⟨R.base.grow K g,R.bare,R.vars.imp fun m v=>⟨g.ns v.1,fun i x e=>(v.2 i x e).move g.rel fun _=>g.cell⟩,fun a xs e=>(R.lists a xs e).grow g,fun x c e=>(R.cells x c e).imp fun _=>g.cell,fun a o e=>(R.ro a o e).move (fun z _ _=>g _ _ z) id⟩
theorem Step.grow {X:Addr→Prop} {h':Heap} {tk:Nat} (g:Grow s.heap h'):Step X σ σ s {s with heap:=h',toks:=tk}:=
 ⟨fun b o e _=>g b o e,fun b o e=>⟨o,g b o e⟩,fun _ _ _ e=>e,fun _ e=>e,fun _ _ _=> .inl rfl⟩
theorem Rel.tok (R:Rel C env σ s) (tk:Nat):Rel C env σ {s with toks:=tk}:=⟨⟨R.keep,R.tab,R.os⟩,R.bare,R.vars,R.lists,R.cells,R.ro⟩
theorem two_at {h:Heap} {a:Addr} {o o':Obj} {P:Prop} (e:h.get? a=some o) (e':h.get? a=some o') (f:o=o'→P):P:=f (Option.some.inj (e.symm.trans e'))
theorem tup_list {h:Heap} {b:Addr} {items its:Array Value} (t:IsTup h b items) (l:h.PlainList b its):False:=
 t.elim fun o t=>l.elim fun n l=>two_at t.1 l fun q=>by subst q;exact absurd (show Value.type "list" =Value.type "tuple" from t.2.1) (by decide)
theorem XE.listed {b:Addr} {P:Prop} (x:XE C σ b) (l: ∀xs,σ.lists b=some xs→P) (t:b∈C.tabs→P):P:=x.elim (fun x=>(Option.isSome_iff_exists.mp x).elim l) t
theorem tab_tup (K:CtxOk C) {h:Heap} (T:C.tabOk h) {b:Addr} {items:Array Value} (m:b∈C.tabs) (t:IsTup h b items):False:=
 t.elim fun o t=>(K.none _ T b m).elim fun o' z=>two_at t.1 z.1 fun q=>by subst q;have:=t.2.1.symm.trans z.2;cases this
theorem Rel.noTupE (K:CtxOk C) (R:Rel C env σ s) {b:Addr} (x:XE C σ b) {items:Array Value} (t:IsTup s.heap b items):False:=
 x.listed (fun xs e=>(R.lists b xs e).casesOn fun _ l _ _=>tup_list t l) fun m=>tab_tup K R.tab m t
theorem Rel.noTupS (K:CtxOk C) (R:Rel C env σ s) {b:Addr} (x:XS C env σ b) {items:Array Value} (t:IsTup s.heap b items):False:=by
 rcases x with x|rfl|⟨n,x,_⟩
 ·exact R.noTupE K x t
 ·exact t.elim fun o t=>R.vars.elim fun m v=>v.1.elim fun o' v=>v.elim fun es v=>v.elim fun ep v=>two_at t.1 v.1 fun q=>by
   subst q
   have:=t.2.2
   rw[v.2.1] at this
   exact this.elim fun _ z=>nomatch z
 ·exact t.elim fun o t=>(R.cells n b x).elim fun v z=>z.elim fun o' z=>two_at t.1 z.1 fun q=>by
   subst q
   have:=t.2.2
   rw[z.2] at this
   exact this.elim fun _ z=>nomatch z
theorem Step.relE (K:CtxOk C) (R:Rel C env σ s) (S:Step (XE C σ) σ σ' s s') {x:V} {v:Value} (r:RelV C s.heap x v):RelV C s'.heap x v:=
 RelV.kept (fun a items t=>IsTup.kept t fun o e=>S.kept a o e fun xe=>R.noTupE K xe t) r
end
inductive PostE (C:Ctx) (env:Env) (σ:St) (s:Shared) (Q:V→St→Prop) (v:Value) (s':Shared):Prop
 |mk (x:V) (σ':St) (r:RelV C s'.heap x v) (R:Rel C env σ' s') (S:Step (XE C σ) σ σ' s s') (e:σ'.vars=σ.vars) (q:Q x σ'):PostE C env σ s Q v s'
inductive PostB (C:Ctx) (env:Env) (σ:St) (s:Shared) (Q:Bool→St→Prop) (v:Bool) (s':Shared):Prop
 |mk (σ':St) (R:Rel C env σ' s') (S:Step (XE C σ) σ σ' s s') (e:σ'.vars=σ.vars) (q:Q v σ'):PostB C env σ s Q v s'
structure SoundE (C:Ctx) (k:Nat) (sc:Scope) (P:PT V) (e:Expr):Prop where
 go: ∀(env:Env) (A:Around) (σ:St) (s:Shared) (Q:V→St→Prop),env.scope=sc→EnvOk C env→Lim k A→Rel C env σ s→P Q σ→
  wpAny (model C.prog C.w) A (eval e env) (PostE C env σ s Q) (fun _ _=>False) s
structure SoundB (C:Ctx) (k:Nat) (sc:Scope) (P:PT Bool) (e:Expr):Prop where
 go: ∀(env:Env) (A:Around) (σ:St) (s:Shared) (Q:Bool→St→Prop),env.scope=sc→EnvOk C env→Lim k A→Rel C env σ s→P Q σ→
  wpAny (model C.prog C.w) A (isTrue e env (eval e env)) (PostB C env σ s Q) (fun _ _=>False) s
section
variable {C:Ctx} {k:Nat} {sc:Scope}
noncomputable def ptInt (i:Int):PT V:=fun Q σ=>Q (.int i) σ
noncomputable def ptStr (x:Str):PT V:=fun Q σ=>Q (.str x) σ
noncomputable def ptNone:PT V:=fun Q σ=>Q .none σ
noncomputable def ptBool (b:Bool):PT V:=fun Q σ=>Q (.bool b) σ
theorem s_int {i:Int} {kd:Nat} {pos:Pos}:SoundE C k sc (ptInt i) (.Constant (.int i) kd pos):= .mk fun env A σ s Q _ _ _ R h=>
 wpAny_Constant_int ⟨.int i,σ,⟨_,rfl⟩,R.tok _,Step.grow Grow.refl,rfl,h⟩
theorem s_str {x:Str} {kd:Nat} {pos:Pos}:SoundE C k sc (ptStr x) (.Constant (.str x) kd pos):= .mk fun env A σ s Q _ _ _ R h=>
 Constant_str ⟨.str x,σ,⟨_,rfl⟩,R.tok _,Step.grow Grow.refl,rfl,h⟩
theorem s_none {kd:Nat} {pos:Pos}:SoundE C k sc ptNone (.Constant .none kd pos):= .mk fun env A σ s Q _ _ _ R h=>
 wpAny_Constant_none ⟨.none,σ,rfl,R,Step.refl,rfl,h⟩
theorem s_bool {b:Bool} {kd:Nat} {pos:Pos}:SoundE C k sc (ptBool b) (.Constant (.bool b) kd pos):= .mk fun env A σ s Q _ _ _ R h=>
 wpAny_Constant_bool ⟨.bool b,σ,rfl,R,Step.refl,rfl,h⟩
noncomputable def ptVar (i:Nat):PT V:=fun Q σ=> ∃x,σ.vars i=some x∧Q x σ
theorem s_var {x:Str} {pos:Pos} {kd:NameKind} (i:Nat) (hi:sc.names[i]? =some (x,kd)) (hl:sc.names.lookup x=some kd) (hk:kd= .local∨kd= .cell∨kd= .free)
  (hd:(x==("__debug__" :Str))=false) (hn:(x==("__classdict__" :Str))=false):SoundE C k sc (ptVar i) (.Name x pos):= .mk fun env A σ s Q hs hE _ R q=>q.elim fun v q=>by
 subst hs
 refine R.vars.elim fun m R'=>(R'.2 i v q.1).on hi fun val e2 e3 e4=>?_
 have fin:PostE C env σ s Q val s:=⟨v,σ,e2,R,Step.refl,rfl,q.2⟩
 refine wpAny_Name ?_ hd
 rcases hk with rfl|rfl|rfl
 ·exact wpAny_loadName_local hE.kind hl R'.1 (e3 rfl) fin
 ·exact (e4 (by decide)).elim fun c z=>wpAny_loadName_cell hE.kind hl z.1 z.2 fin
 ·exact (e4 (by decide)).elim fun c z=>wpAny_loadName_free hE.kind hl z.1 z.2 fin hn
end
end
section
open PySem PySem.Spec PySem.Calls PyProof.Rows PySem.W
noncomputable def GrowBut (b:Addr) (h h':Heap):Prop:= ∀c o,c≠b→h.get? c=some o→h'.get? c=some o
theorem GrowBut.of_same {b:Addr} {h h':Heap} (x:Heap.SameBut b h h'):GrowBut b h h':=fun c o n e=>(x.2 c n).trans e
section
variable {C:Ctx} {env:Env} {σ σ':St} {s s':Shared}
theorem ns_at {h:Heap} {a:Addr} {m:Str→Option Value} {P:Prop} (x:h.Ns a m) (f: ∀o es ep,h.get? a=some o→o.data= .dict es ep→P):P:=x.elim fun o x=>x.elim fun es x=>x.elim fun ep x=>f o es ep x.1 x.2.1
theorem cell_at {h:Heap} {a:Addr} {v:Option Value} {P:Prop} (x:h.IsCell a v) (f: ∀o,h.get? a=some o→o.data= .cell v→P):P:=x.elim fun o x=>f o x.1 x.2
theorem list_at {h:Heap} {a:Addr} {items:Array Value} {P:Prop} (x:h.PlainList a items) (f: ∀o n,h.get? a=some o→o.data= .seq items n→P):P:=x.elim fun n e=>f _ n e rfl
theorem tup_at {h:Heap} {a:Addr} {items:Array Value} {P:Prop} (x:IsTup h a items) (f: ∀o n,h.get? a=some o→o.data= .seq items n→P):P:=x.elim fun o x=>x.2.2.elim fun n d=>f o n x.1 d
theorem data_at {h:Heap} {a:Addr} {o o':Obj} {d d':Data} {P:Prop} (e:h.get? a=some o) (e':h.get? a=some o') (x:o.data=d) (y:o'.data=d') (f:d=d'→P):P:=two_at e e' fun q=>f (x.symm.trans ((congrArg Obj.data q).trans y))
theorem code_at {h:Heap} {a:Addr} {o o':Obj} {d:Data} (e:h.get? a=some o') (x:o'.data=d) (n: ∀vs,d≠ .fields vs) (e':h.get? a=some o): ¬CodeLike o:=fun z=>z.elim fun vs z=>z.elim fun _ z=>z.elim fun _ z=>data_at e e' x z.1 (n vs)
theorem ns_not_code {h:Heap} {a:Addr} {m:Str→Option Value} (x:h.Ns a m) (o:Obj) (e:h.get? a=some o): ¬CodeLike o:=ns_at x fun _ _ _ e' d=>code_at e' d (fun _ z=>nomatch z) e
theorem cell_not_code {h:Heap} {a:Addr} {v:Option Value} (x:h.IsCell a v) (o:Obj) (e:h.get? a=some o): ¬CodeLike o:=cell_at x fun _ e' d=>code_at e' d (fun _ z=>nomatch z) e
theorem list_not_code {h:Heap} {a:Addr} {items:Array Value} (x:h.PlainList a items) (o:Obj) (e:h.get? a=some o): ¬CodeLike o:=list_at x fun _ _ e' d=>code_at e' d (fun _ z=>nomatch z) e
theorem list_ne_cell {h:Heap} {a:Addr} {items:Array Value} {v:Option Value} (x:h.PlainList a items) (y:h.IsCell a v):False:=list_at x fun _ _ e d=>cell_at y fun _ e' d'=>data_at e e' d d' fun z=>nomatch z
theorem list_ne_ns {h:Heap} {a:Addr} {items:Array Value} {m:Str→Option Value} (x:h.PlainList a items) (y:h.Ns a m):False:=list_at x fun _ _ e d=>ns_at y fun _ _ _ e' d'=>data_at e e' d d' fun z=>nomatch z
theorem cell_ne_ns {h:Heap} {a:Addr} {v:Option Value} {m:Str→Option Value} (x:h.IsCell a v) (y:h.Ns a m):False:=cell_at x fun _ e d=>ns_at y fun _ _ _ e' d'=>data_at e e' d d' fun z=>nomatch z
theorem tup_ne_cell {h:Heap} {a:Addr} {items:Array Value} {v:Option Value} (x:IsTup h a items) (y:h.IsCell a v):False:=tup_at x fun _ _ e d=>cell_at y fun _ e' d'=>data_at e e' d d' fun z=>nomatch z
theorem tup_ne_ns {h:Heap} {a:Addr} {items:Array Value} {m:Str→Option Value} (x:IsTup h a items) (y:h.Ns a m):False:=tup_at x fun _ _ e d=>ns_at y fun _ _ _ e' d'=>data_at e e' d d' fun z=>nomatch z
theorem tup_ne_list {h:Heap} {a:Addr} {items its:Array Value} (x:IsTup h a items) (y:h.PlainList a its):False:=tup_list x y
theorem not_tab {b:Addr} (K:CtxOk C) (nb:C.base.get? b=none):b∉C.tabs:=fun m=>(K.base b m).elim fun o e=>nomatch nb.symm.trans e
theorem ne_at {α:Type} {f:Addr→Option α} {a b:Addr} {x:α} (e:f a=some x) (n:f b=none):a≠b:=fun q=>by subst q;exact nomatch n.symm.trans e
theorem GrowBut.tup {b:Addr} {h h':Heap} (g:GrowBut b h h') (nt: ∀items,¬IsTup h b items) (a:Addr) (items:Array Value) (x:IsTup h a items):IsTup h' a items:=
 IsTup.kept x fun o e=>g a o (fun q=>nt items (q▸x)) e
theorem GrowBut.list {b a:Addr} {h h':Heap} {items:Array Value} (g:GrowBut b h h') (n:a≠b) (x:h.PlainList a items):h'.PlainList a items:=x.imp fun _ e=>g _ _ n e
theorem GrowBut.ns {b a:Addr} {h h':Heap} {m:Str→Option Value} (g:GrowBut b h h') (n:a≠b) (x:h.Ns a m):h'.Ns a m:=x.imp fun _ x=>x.imp fun _ x=>x.imp fun _ x=>x.imp_left (g _ _ n)
theorem GrowBut.cell {b a:Addr} {h h':Heap} {v:Option Value} (g:GrowBut b h h') (n:a≠b) (x:h.IsCell a v):h'.IsCell a v:=x.imp fun _ x=>x.imp_left (g _ _ n)
theorem GrowBut.rel {b:Addr} {h h':Heap} (g:GrowBut b h h') (nt: ∀items,¬IsTup h b items) {x:V} {v:Value} (r:RelV C h x v):RelV C h' x v:=RelV.kept (g.tup nt) r
theorem GrowBut.at {b a:Addr} {h h':Heap} {xs:List V} (g:GrowBut b h h') (nt: ∀items,¬IsTup h b items) (n:a≠b) (x:ListAt C h a xs):ListAt C h' a xs:=x.casesOn fun items l r z=>⟨items,g.list n l,RelVs.kept (g.tup nt) r,z⟩
theorem BaseOk.other (K:CtxOk C) (R:BaseOk C s) {b:Addr} {h':Heap} {tk:Nat} (g:GrowBut b s.heap h') (nb:C.base.get? b=none) (nk: ∀o,s.heap.get? b=some o→ ¬CodeLike o):BaseOk C {s with heap:=h',toks:=tk}:=
 ⟨fun c o e n=>g c o (ne_at e nb) (R.keep c o e n),K.kept _ _ R.tab fun c o e hc=>g c o (fun q=>hc.elim (q▸not_tab K nb) (nk o (q▸e))) e,R.os⟩
theorem Rel.other (K:CtxOk C) (R:Rel C env σ s) {b:Addr} {h':Heap} {tk:Nat} (g:GrowBut b s.heap h') (nb:C.base.get? b=none) (nl:σ.lists b=none) (nL:b≠env.locals)
  (nc: ∀x,env.cells.lookup x≠some b) (nt: ∀items,¬IsTup s.heap b items) (nr:σ.ro b=none) (nk: ∀o,s.heap.get? b=some o→ ¬CodeLike o):Rel C env σ {s with heap:=h',toks:=tk}:=
 ⟨R.base.other K g nb nk,R.bare,R.vars.imp fun m v=>⟨g.ns (Ne.symm nL) v.1,fun i x e=>(v.2 i x e).move (g.rel nt) fun c1=>g.cell fun q=>nc _ (q▸c1)⟩,fun a xs e=>g.at nt (ne_at e nl) (R.lists a xs e),
  fun x c e=>(R.cells x c e).imp fun v=>g.cell fun q=>nc x (q▸e),fun a o e=>(R.ro a o e).move (fun z _ _=>g _ _ (ne_at e nr) z) id⟩
noncomputable def setV (σ:St) (i:Nat) (x:V):St:=⟨fun j=>if j=i then some x else σ.vars j,σ.lists,σ.ro⟩
noncomputable def setL (σ:St) (a:Addr) (xs:List V):St:=⟨σ.vars,fun b=>if b=a then some xs else σ.lists b,σ.ro⟩
theorem names_inj {names:List (Str×NameKind)} (nd:(names.map (·.1)).Nodup) {i j:Nat} {x:Str} {k k':NameKind} (hi:names[i]? =some (x,k)) (hj:names[j]? =some (x,k')):i=j:=by
 have hi':(names.map (·.1))[i]? =some x:=by rw[List.getElem?_map,hi];rfl
 have hj':(names.map (·.1))[j]? =some x:=by rw[List.getElem?_map,hj];rfl
 obtain ⟨a,ha⟩:=List.getElem?_eq_some_iff.mp hi'
 obtain ⟨b,hb⟩:=List.getElem?_eq_some_iff.mp hj'
 exact (List.getElem_inj nd).mp (ha.trans hb.symm)
theorem setV_to {σ:St} {i j:Nat} {x y:V} {P:Prop} (e:(setV σ i x).vars j=some y) (f:j=i→x=y→P) (g:j≠i→σ.vars j=some y→P):P:=by
 by_cases h:j=i
 ·exact f h (Option.some.inj ((if_pos h).symm.trans e))
 ·exact g h ((if_neg h).symm.trans e)
theorem Rel.store_local (K:CtxOk C) (hE:EnvOk C env) (R:Rel C env σ s) {i:Nat} {x:Str} {v:Value} {d:V} {h':Heap} {tk:Nat} {m:Str→Option Value} (hm:s.heap.Ns env.locals m)
  (hi:env.scope.names[i]? =some (x,.local)) (r:RelV C s.heap d v) (hn:h'.Ns env.locals (fun y=>if y=x then some v else m y)) (hs:Heap.SameBut env.locals s.heap h'):
  Rel C env (setV σ i d) {s with heap:=h',toks:=tk}∧Step (XS C env σ) σ (setV σ i d) s {s with heap:=h',toks:=tk}:=by
 have g:=GrowBut.of_same hs
 have nt: ∀items,¬IsTup s.heap env.locals items:=fun items t=>tup_ne_ns t hm
 have hcl: ∀{c:Addr} {v:Option Value},s.heap.IsCell c v→h'.IsCell c v:=fun z=>g.cell (fun q=>cell_ne_ns (q▸z) hm) z
 refine ⟨⟨R.base.other K g hE.fresh (ns_not_code hm),R.bare,⟨_,hn,fun j u e=>setV_to e (fun q z=>?_) fun hj e=>?_⟩,fun a xs e=>(R.lists a xs e).casesOn fun its l r b=>g.at nt (fun q=>list_ne_ns (q▸l) hm) ⟨its,l,r,b⟩,
  fun x c e=>(R.cells x c e).imp fun _=>hcl,fun a o e=>(R.ro a o e).move (fun z n _=>g _ _ n z) id⟩,
  fun b o e n=>g b o (fun q=>n (.inr (.inl q))) e,fun b o e=>?_,fun _ _ _ e=>e,fun _ e=>e,fun _ _ _=> .inl rfl⟩
 ·exact ⟨x,.local,q▸hi,v,z▸g.rel nt r,fun _=>if_pos rfl,fun n=>absurd rfl n⟩
 ·exact R.vars.elim fun m' R'=>(R'.2 j u e).casesOn fun y kd e1 val e2 e3 e4=>
   ⟨y,kd,e1,val,g.rel nt e2,fun q=>(if_neg fun z=>hj (names_inj hE.nodup (z▸e1) hi)).trans ((R'.1.agree hm y).symm.trans (e3 q)),fun n=>(e4 n).imp fun _ z=>⟨z.1,hcl z.2⟩⟩
 ·by_cases q:b=env.locals
  ·exact ns_at hn fun o' _ _ e' _=>⟨o',q▸e'⟩
  ·exact ⟨o,g b o q e⟩
end
end
section
open PySem PySem.Spec PySem.Calls PyProof.Rows PySem.W
section
variable {C:Ctx} {env:Env} {σ σ':St} {s s':Shared}
theorem cells_inj (hE:EnvOk C env) {x y:Str} {c:Addr} (hx:(x,c)∈env.cells) (hy:(y,c)∈env.cells):x=y:=by
 have h:=hE.apart
 generalize env.cells=l at h hx hy
 induction h with
 |nil=>cases hx
 |cons h1 _ ih=>
  rcases List.mem_cons.mp hx with h3|h3<;>rcases List.mem_cons.mp hy with h4|h4
  ·exact congrArg Prod.fst (h3.trans h4.symm)
  ·exact (h1 _ h4 (h3▸rfl)).elim
  ·exact (h1 _ h3 (h4▸rfl)).elim
  ·exact ih h3 h4
theorem setL_to {σ:St} {a b:Addr} {x y:List V} {P:Prop} (e:(Mine.setL σ a x).lists b=some y) (f:b=a→x=y→P) (g:b≠a→σ.lists b=some y→P):P:=by
 by_cases h:b=a
 ·exact f h (Option.some.inj ((if_pos h).symm.trans e))
 ·exact g h ((if_neg h).symm.trans e)
theorem setL_other {σ:St} {a b:Addr} {xs:List V} (n:b≠a):(Mine.setL σ a xs).lists b=σ.lists b:=if_neg n
theorem setL_get {σ:St} {a:Addr} {xs:List V}:(Mine.setL σ a xs).lists a=some xs:=if_pos rfl
theorem there_at {h h':Heap} {c:Addr} (g:GrowBut c h h') (n: ∃o,h'.get? c=some o) (b:Addr) (o:Obj) (e:h.get? b=some o): ∃o',h'.get? b=some o':=by
 by_cases q:b=c
 ·exact q▸n
 ·exact ⟨o,g b o q e⟩
theorem setL_mono {σ:St} {a:Addr} {xs:List V} {b:Addr} (e:(σ.lists b).isSome=true):((Mine.setL σ a xs).lists b).isSome=true:=by
 by_cases q:b=a
 ·rw[q,setL_get];rfl
 ·rw[setL_other q];exact e
theorem Rel.store_cell (K:CtxOk C) (hE:EnvOk C env) (R:Rel C env σ s) {i:Nat} {x:Str} {v:Value} {d:V} {h':Heap} {tk:Nat} {c:Addr}
  (hi:env.scope.names[i]? =some (x,.cell)) (hl:env.kindOf x=some .cell) (hc:env.cells.lookup x=some c) (r:RelV C s.heap d v) (hn:h'.IsCell c (some v)) (hs:Heap.SameBut c s.heap h'):
  Rel C env (setV σ i d) {s with heap:=h',toks:=tk}∧Step (XS C env σ) σ (setV σ i d) s {s with heap:=h',toks:=tk}:=by
 have g:=GrowBut.of_same hs
 have hmem:=PySem.mem_of_lookup hc
 refine (R.cells x c hc).elim fun v₀ hz=>?_
 have nt: ∀items,¬IsTup s.heap c items:=fun items t=>tup_ne_cell t hz
 refine ⟨⟨R.base.other K g (hE.cfresh x c hmem) (cell_not_code hz),R.bare,R.vars.imp fun m R'=>⟨g.ns (fun q=>cell_ne_ns (q▸hz) R'.1) R'.1,fun j u e=>setV_to e (fun q z=>?_) fun hj e=>?_⟩,
  fun a xs e=>(R.lists a xs e).casesOn fun its l r b=>g.at nt (fun q=>list_ne_cell (q▸l) hz) ⟨its,l,r,b⟩,fun y b e=>?_,fun a o e=>(R.ro a o e).move (fun z n nc=>g _ _ (fun q=>nc x (q▸hc)) z) id⟩,
  fun b o e n=>g b o (fun q=>n (.inr (.inr ⟨x,q▸hc,hl⟩))) e,there_at g (cell_at hn fun o' e' _=>⟨o',e'⟩),fun _ _ _ e=>e,fun _ e=>e,fun _ _ _=> .inl rfl⟩
 ·exact ⟨x,.cell,q▸hi,v,z▸g.rel nt r,(fun q=>nomatch q),fun _=>⟨c,hc,hn⟩⟩
 ·exact (R'.2 j u e).casesOn fun y kd e1 val e2 e3 e4=>⟨y,kd,e1,val,g.rel nt e2,e3,fun n=>(e4 n).imp fun b z=>⟨z.1,g.cell (fun q=>hj (names_inj hE.nodup (cells_inj hE (PySem.mem_of_lookup (q▸z.1)) hmem▸e1) hi)) z.2⟩⟩
 ·by_cases q:b=c
  ·exact ⟨_,q▸hn⟩
  ·exact (R.cells y b e).imp fun u=>g.cell q
theorem Rel.setL (K:CtxOk C) (hE:EnvOk C env) (R:Rel C env σ s) {a:Addr} {xs ys:List V} {items:Array Value} {h':Heap} {tk:Nat} (hx:σ.lists a=some xs)
  (hn:h'.PlainList a items) (r:RelVs C s.heap ys items.toList) (hs:GrowBut a s.heap h'):
  Rel C env (setL σ a ys) {s with heap:=h',toks:=tk}∧Step (XE C σ) σ (Mine.setL σ a ys) s {s with heap:=h',toks:=tk}:=by
 refine (R.lists a xs hx).casesOn fun it₀ l1 l2 nb=>?_
 have nt: ∀items,¬IsTup s.heap a items:=fun items t=>tup_ne_list t l1
 have nc: ∀{c:Addr} {v:Option Value},s.heap.IsCell c v→h'.IsCell c v:=fun z=>hs.cell (fun q=>list_ne_cell (q▸l1) z) z
 exact ⟨⟨R.base.other K hs nb (list_not_code l1),R.bare,R.vars.imp fun m R'=>⟨hs.ns (fun q=>list_ne_ns (q▸l1) R'.1) R'.1,fun j u e=>(R'.2 j u e).move (hs.rel nt) fun _=>nc⟩,
  fun b zs e=>setL_to e (fun q z=>⟨items,q▸hn,z▸RelVs.kept (hs.tup nt) r,q▸nb⟩) fun q e=>hs.at nt q (R.lists b zs e),
  fun y b e=>(R.cells y b e).imp fun u=>nc,fun b o e=>(R.ro b o e).casesOn fun z n c nl r=>have ne:=Ne.symm (ne_at hx nl);⟨hs _ _ ne z,n,c,(setL_other ne).trans nl,r⟩⟩,
  fun b o e n=>hs b o (fun q=>n (.inl (q▸by rw[hx];rfl))) e,there_at hs (list_at hn fun _ _ e' _=>⟨_,e'⟩),fun b o e l=>(setL_other (Ne.symm (ne_at hx l))).trans l,fun b e=>setL_mono e,fun _ _ _=> .inl rfl⟩
theorem Rel.notHere (R:Rel C env σ s) {a:Addr} (ha:s.heap.get? a=none):σ.lists a=none:=by
 cases q:σ.lists a with
 |none=>rfl
 |some l=>exact (R.lists a l q).casesOn fun it l _ _=>list_at l fun _ _ e _=>nomatch ha.symm.trans e
theorem BaseOk.notHere (K:CtxOk C) (R:BaseOk C s) {a:Addr} (ha:s.heap.get? a=none):C.base.get? a=none:=by
 cases z:C.base.get? a with
 |none=>rfl
 |some o=>
  by_cases w:a∈C.tabs
  ·exact (K.none _ R.tab a w).elim fun o' e=>nomatch ha.symm.trans e.1
  ·exact nomatch ha.symm.trans (R.keep a o z w)
theorem Rel.newL (K:CtxOk C) (R:Rel C env σ s) {a:Addr} {ys:List V} {items:Array Value} {h':Heap} {tk:Nat} (ha:s.heap.get? a=none)
  (hn:h'.PlainList a items) (r:RelVs C h' ys items.toList) (g:Grow s.heap h'):
  σ.lists a=none∧Rel C env (Mine.setL σ a ys) {s with heap:=h',toks:=tk}∧Step (XE C σ) σ (Mine.setL σ a ys) s {s with heap:=h',toks:=tk}:=
 have R':Rel C env σ {s with heap:=h',toks:=tk}:=R.grow K g
 ⟨R.notHere ha,⟨R'.base,R'.bare,R'.vars,fun b zs e=>setL_to e (fun q z=>⟨items,q▸hn,z▸r,q▸R.base.notHere K ha⟩) fun _ e=>R'.lists b zs e,R'.cells,
  fun b o e=>(R.ro b o e).casesOn fun z n nc l r=>⟨g _ _ z,n,nc,(setL_other (ne_at z ha)).trans l,r⟩⟩,
  fun b o e _=>g b o e,fun b o e=>⟨o,g b o e⟩,fun b o e l=>(setL_other (ne_at e ha)).trans l,fun b e=>setL_mono e,fun _ _ _=> .inl rfl⟩
end
inductive Fl where
 |next|brk|cont
 |ret (v:V)
noncomputable def RelF (C:Ctx) (h:Heap):Fl→Flow→Prop
 | .next,f=>f= .next
 | .brk,f=>f= .brk
 | .cont,f=>f= .cont
 | .ret v,f=> ∃val,f= .ret val∧RelV C h v val
inductive PostS (C:Ctx) (env:Env) (σ:St) (s:Shared) (Q:Fl→St→Prop) (f:Flow) (s':Shared):Prop
 |mk (g:Fl) (σ':St) (r:RelF C s'.heap g f) (R:Rel C env σ' s') (S:Step (XS C env σ) σ σ' s s') (q:Q g σ'):PostS C env σ s Q f s'
structure Sound1 (C:Ctx) (k:Nat) (sc:Scope) (P:PT Fl) (st:Stmt):Prop where
 go: ∀(env:Env) (A:Around) (σ:St) (s:Shared) (Q:Fl→St→Prop),env.scope=sc→EnvOk C env→Lim k A→Rel C env σ s→P Q σ→
  wpAny (model C.prog C.w) A (exec st env) (PostS C env σ s Q) (fun _ _=>False) s
structure SoundS (C:Ctx) (k:Nat) (sc:Scope) (P:PT Fl) (ss:List Stmt):Prop where
 go: ∀(env:Env) (A:Around) (σ:St) (s:Shared) (Q:Fl→St→Prop),env.scope=sc→EnvOk C env→Lim k A→Rel C env σ s→P Q σ→
  wpAny (model C.prog C.w) A (execs ss env) (PostS C env σ s Q) (fun _ _=>False) s
section
variable {C:Ctx} {env:Env} {σ σ₁ σ₂:St} {s s₁ s₂:Shared}
theorem Step.ES (h:Step (XE C σ) σ σ₁ s s₁):Step (XS C env σ) σ σ₁ s s₁:=⟨fun b o e n=>h.kept b o e fun x=>n (.inl x),h.there,h.dom,h.mono,h.rod⟩
theorem Step.transS (h₁:Step (XS C env σ) σ σ₁ s s₁) (h₂:Step (XS C env σ₁) σ₁ σ₂ s₁ s₂):Step (XS C env σ) σ σ₂ s s₂:=
 h₁.trans h₂ (fun _ x=>x) fun b o e y=>y.imp (XE_back h₁ e) id
theorem Step.transES (h₁:Step (XE C σ) σ σ₁ s s₁) (h₂:Step (XS C env σ₁) σ₁ σ₂ s₁ s₂):Step (XS C env σ) σ σ₂ s s₂:=Step.transS (Step.ES h₁) h₂
noncomputable def ptNil:PT Fl:=fun Q σ=>Q .next σ
noncomputable def seqK (G:PT Fl) (QF:Fl→St→Prop):Fl→St→Prop:=fun f σ'=>match f with| .next=>G QF σ'|g=>QF g σ'
noncomputable def ptSeq (P R:PT Fl):PT Fl:=fun Q σ=>P (seqK R Q) σ
variable {k:Nat} {sc:Scope}
theorem s_nil:SoundS C k sc ptNil []:= .mk fun env A σ s Q _ _ _ R h=>wpAny_execs_nil ⟨.next,σ,rfl,R,Step.refl,h⟩
theorem wpS {t:Sem Flow} {A:Around} {s₀:Shared} {Q:Fl→St→Prop} {R:Flow→Shared→Prop} {E:Value→Shared→Prop} (h:wpAny (model C.prog C.w) A t (PostS C env σ s₀ Q) (fun _ _=>False) s)
  (f: ∀fl s₁ g σ₁,RelF C s₁.heap g fl→Rel C env σ₁ s₁→Step (XS C env σ) σ σ₁ s₀ s₁→Q g σ₁→R fl s₁):wpAny (model C.prog C.w) A t R E s:=
 wpAny_mono h (fun fl s₁ p=>p.casesOn fun g σ₁ r R S q=>f fl s₁ g σ₁ r R S q) fun _ _ x=>x.elim
theorem backS {t:Sem Flow} {A:Around} {Q:Fl→St→Prop} (S:Step (XS C env σ) σ σ₁ s s₁) (h:wpAny (model C.prog C.w) A t (PostS C env σ₁ s₁ Q) (fun _ _=>False) s₂):wpAny (model C.prog C.w) A t (PostS C env σ s Q) (fun _ _=>False) s₂:=
 wpS h fun fl s₁ g σ₁ r R S' q=>⟨g,σ₁,r,R,S.transS S',q⟩
theorem backES {t:Sem Flow} {A:Around} {Q:Fl→St→Prop} (S:Step (XE C σ) σ σ₁ s s₁) (h:wpAny (model C.prog C.w) A t (PostS C env σ₁ s₁ Q) (fun _ _=>False) s₂):wpAny (model C.prog C.w) A t (PostS C env σ s Q) (fun _ _=>False) s₂:=
 backS S.ES h
theorem s_cons {P R:PT Fl} {st:Stmt} {ss:List Stmt} (h₁:Sound1 C k sc P st) (h₂:SoundS C k sc R ss):SoundS C k sc (ptSeq P R) (st::ss):= .mk fun env A σ s Q hs hE hL hR h=>
 wpAny_execs_cons (wpS (h₁.go env A σ s _ hs hE hL hR h) fun f s' g σ' rf R' S q=>by
  cases g with
  |next=>cases (show f= .next from rf);exact backS S (h₂.go env A σ' s' Q hs hE hL R' q)
  |brk=>cases (show f= .brk from rf);exact ⟨.brk,σ',rfl,R',S,q⟩
  |cont=>cases (show f= .cont from rf);exact ⟨.cont,σ',rfl,R',S,q⟩
  |ret v=>exact rf.elim fun val r=>r.1▸⟨.ret v,σ',⟨val,rfl,r.2⟩,R',S,q⟩)
theorem thenE {P:PT V} {e:Expr} {A:Around} (h:SoundE C k sc P e) {Q:V→St→Prop} {R:Value→Shared→Prop} (hs:env.scope=sc) (hE:EnvOk C env) (hL:Lim k A) (hR:Rel C env σ s) (q:P Q σ)
  (f: ∀v s₁ x σ₁,RelV C s₁.heap x v→Rel C env σ₁ s₁→Step (XE C σ) σ σ₁ s s₁→σ₁.vars=σ.vars→Q x σ₁→R v s₁):wpAny (model C.prog C.w) A (eval e env) R (fun _ _=>False) s:=
 wpAny_mono (h.go env A σ s Q hs hE hL hR q) (fun v s₁ p=>p.casesOn fun x σ₁ r R S e q=>f v s₁ x σ₁ r R S e q) fun _ _ x=>x
noncomputable def ptRet (P:PT V):PT Fl:=fun Q σ=>P (fun v σ'=>Q (.ret v) σ') σ
theorem s_ret {P:PT V} {e:Expr} {pos:Pos} (h:SoundE C k sc P e):Sound1 C k sc (ptRet P) (.Return (some e) pos):= .mk fun env A σ s Q hs hE hL hR q=>
 wpAny_Return_some (thenE h hs hE hL hR q fun v s' x σ' r R S _ q=>⟨.ret x,σ',⟨v,rfl,r⟩,R,S.ES,q⟩)
noncomputable def ptRetNone:PT Fl:=fun Q σ=>Q (.ret .none) σ
theorem s_retNone {pos:Pos}:Sound1 C k sc ptRetNone (.Return none pos):= .mk fun env A σ s Q hs hE hL hR q=>
 wpAny_Return_none ⟨.ret .none,σ,⟨.none,rfl,rfl⟩,hR,Step.refl,q⟩
noncomputable def ptIf (P:PT Bool) (R T:PT Fl):PT Fl:=fun Q σ=>P (fun b σ'=>if b=true then R Q σ' else T Q σ') σ
@[elab_as_elim] theorem onB {p q:Prop} {G:Bool→Prop} {b:Bool} (h:if b=true then p else q) (t:p→G true) (f:q→G false):G b:=by
 cases b with
 |true=>exact t h
 |false=>exact f h
theorem s_if {P:PT Bool} {R T:PT Fl} {test:Expr} {body orelse:List Stmt} {pos:Pos} (h:SoundB C k sc P test) (hb:SoundS C k sc R body) (ho:SoundS C k sc T orelse):
  Sound1 C k sc (ptIf P R T) (.If test body orelse pos):= .mk fun env A σ s Q hsc hE hL hR q=>
 wpAny_If (wpAny_mono (h.go env A σ s _ hsc hE hL hR q) (fun b s' p=>p.casesOn fun σ' R' S _ q=>onB q (fun q=>backES S (hb.go env A σ' s' Q hsc hE hL R' q)) fun q=>backES S (ho.go env A σ' s' Q hsc hE hL R' q)) fun _ _ x=>x)
end
end
section
open PySem PySem.Spec PySem.Calls PyProof.Rows PySem.W
noncomputable abbrev NoE:Value→Shared→Prop:=fun _ _=>False
section
variable {C:Ctx} {env:Env} {σ σ₁ σ':St} {s s₁ s':Shared} {A:Around} {k:Nat} {sc:Scope}
theorem SoundE.run {P:PT V} {e:Expr} (h:SoundE C k sc P e) {Q:V→St→Prop} (hs:env.scope=sc) (hE:EnvOk C env) (hL:Lim k A) (hR:Rel C env σ s) (q:P Q σ):
  wpAny (model C.prog C.w) A (eval e env) (PostE C env σ s Q) NoE s:=h.go env A σ s Q hs hE hL hR q
theorem SoundB.run {P:PT Bool} {e:Expr} (h:SoundB C k sc P e) {Q:Bool→St→Prop} (hs:env.scope=sc) (hE:EnvOk C env) (hL:Lim k A) (hR:Rel C env σ s) (q:P Q σ):
  wpAny (model C.prog C.w) A (isTrue e env (eval e env)) (PostB C env σ s Q) NoE s:=h.go env A σ s Q hs hE hL hR q
theorem wpE {t:Sem Value} {s₀:Shared} {Q:V→St→Prop} {R:Value→Shared→Prop} (h:wpAny (model C.prog C.w) A t (PostE C env σ s₀ Q) NoE s)
  (f: ∀v s₁ x σ₁,RelV C s₁.heap x v→Rel C env σ₁ s₁→Step (XE C σ) σ σ₁ s₀ s₁→σ₁.vars=σ.vars→Q x σ₁→R v s₁):wpAny (model C.prog C.w) A t R NoE s:=
 wpAny_mono h (fun v s₁ p=>p.casesOn fun x σ₁ r R S e q=>f v s₁ x σ₁ r R S e q) fun _ _ x=>x
theorem wpB {t:Sem Bool} {s₀:Shared} {Q:Bool→St→Prop} {R:Bool→Shared→Prop} (h:wpAny (model C.prog C.w) A t (PostB C env σ s₀ Q) NoE s)
  (f: ∀v s₁ σ₁,Rel C env σ₁ s₁→Step (XE C σ) σ σ₁ s₀ s₁→σ₁.vars=σ.vars→Q v σ₁→R v s₁):wpAny (model C.prog C.w) A t R NoE s:=
 wpAny_mono h (fun v s₁ p=>p.casesOn fun σ₁ R S e q=>f v s₁ σ₁ R S e q) fun _ _ x=>x
theorem SoundE.bind {P:PT V} {e:Expr} (h:SoundE C k sc P e) {Q:V→St→Prop} {R:Value→Shared→Prop} (hs:env.scope=sc) (hE:EnvOk C env) (hL:Lim k A) (hR:Rel C env σ s) (q:P Q σ)
  (f: ∀v s₁ x σ₁,RelV C s₁.heap x v→Rel C env σ₁ s₁→Step (XE C σ) σ σ₁ s s₁→σ₁.vars=σ.vars→Q x σ₁→R v s₁):wpAny (model C.prog C.w) A (eval e env) R NoE s:=wpE (h.run hs hE hL hR q) f
theorem SoundB.bind {P:PT Bool} {e:Expr} (h:SoundB C k sc P e) {Q:Bool→St→Prop} {R:Bool→Shared→Prop} (hs:env.scope=sc) (hE:EnvOk C env) (hL:Lim k A) (hR:Rel C env σ s) (q:P Q σ)
  (f: ∀v s₁ σ₁,Rel C env σ₁ s₁→Step (XE C σ) σ σ₁ s s₁→σ₁.vars=σ.vars→Q v σ₁→R v s₁):wpAny (model C.prog C.w) A (isTrue e env (eval e env)) R NoE s:=wpB (h.run hs hE hL hR q) f
theorem PostE.tok {Q:V→St→Prop} {x:V} {v:Value} {tk:Nat} (R:Rel C env σ s) (r:RelV C s.heap x v) (q:Q x σ):PostE C env σ s Q v {s with toks:=tk}:=
 ⟨x,σ,r,R.tok _,Step.grow Grow.refl,rfl,q⟩
theorem PostE.now {Q:V→St→Prop} {x:V} {v:Value} (R:Rel C env σ s) (r:RelV C s.heap x v) (q:Q x σ):PostE C env σ s Q v s:=⟨x,σ,r,R,Step.refl,rfl,q⟩
theorem PostB.tok {Q:Bool→St→Prop} {b:Bool} {tk:Nat} (R:Rel C env σ s) (q:Q b σ):PostB C env σ s Q b {s with toks:=tk}:=
 ⟨σ,R.tok _,Step.grow Grow.refl,rfl,q⟩
theorem PostB.now {Q:Bool→St→Prop} {b:Bool} (R:Rel C env σ s) (q:Q b σ):PostB C env σ s Q b s:=⟨σ,R,Step.refl,rfl,q⟩
theorem PostE.back {Q:V→St→Prop} {v:Value} (S:Step (XE C σ) σ σ₁ s s₁) (hv:σ₁.vars=σ.vars) (p:PostE C env σ₁ s₁ Q v s'):PostE C env σ s Q v s':=
 let ⟨x,σ',r,R,S',e,q⟩:=p;⟨x,σ',r,R,S.transE S',e.trans hv,q⟩
theorem PostB.back {Q:Bool→St→Prop} {v:Bool} (S:Step (XE C σ) σ σ₁ s s₁) (hv:σ₁.vars=σ.vars) (p:PostB C env σ₁ s₁ Q v s'):PostB C env σ s Q v s':=
 let ⟨σ',R,S',e,q⟩:=p;⟨σ',R,S.transE S',e.trans hv,q⟩
theorem backE {t:Sem Value} {Q:V→St→Prop} {s₂:Shared} (S:Step (XE C σ) σ σ₁ s s₁) (v:σ₁.vars=σ.vars) (h:wpAny (model C.prog C.w) A t (PostE C env σ₁ s₁ Q) NoE s₂):wpAny (model C.prog C.w) A t (PostE C env σ s Q) NoE s₂:=
 wpAny_mono h (fun _ _ p=>p.back S v) fun _ _ x=>x
theorem backB {t:Sem Bool} {Q:Bool→St→Prop} {s₂:Shared} (S:Step (XE C σ) σ σ₁ s s₁) (v:σ₁.vars=σ.vars) (h:wpAny (model C.prog C.w) A t (PostB C env σ₁ s₁ Q) NoE s₂):wpAny (model C.prog C.w) A t (PostB C env σ s Q) NoE s₂:=
 wpAny_mono h (fun _ _ p=>p.back S v) fun _ _ x=>x
theorem rel_int {h:Heap} {i:Int} {v:Value} (r:RelV C h (.int i) v): ∃t,v= .int i t:=r
theorem rel_str {h:Heap} {i:Str} {v:Value} (r:RelV C h (.str i) v): ∃t,v= .str i t:=r
theorem rel_bool {h:Heap} {i:Bool} {v:Value} (r:RelV C h (.bool i) v):v= .bool i:=r
theorem rel_none {h:Heap} {v:Value} (r:RelV C h .none v):v= .none:=r
theorem rel_lst {h:Heap} {a:Addr} {v:Value} (r:RelV C h (.lst a) v):v= .ref a:=r
theorem rel_fn {h:Heap} {a:Addr} {v:Value} (r:RelV C h (.fn a) v):v= .ref a:=r
theorem rel_tup {h:Heap} {l:List V} {v:Value} (r:RelV C h (.tup l) v): ∃a items,v= .ref a∧IsTup h a items∧RelVs C h l items.toList:=r
theorem of_int {h:Heap} {i:Int} {t:Tok}:RelV C h (.int i) (.int i t):=⟨t,rfl⟩
theorem of_str {h:Heap} {i:Str} {t:Tok}:RelV C h (.str i) (.str i t):=⟨t,rfl⟩
theorem of_bool {h:Heap} {i:Bool}:RelV C h (.bool i) (.bool i):=rfl
theorem of_none {h:Heap}:RelV C h .none .none:=rfl
theorem of_lst {h:Heap} {a:Addr}:RelV C h (.lst a) (.ref a):=rfl
theorem of_fn {h:Heap} {a:Addr}:RelV C h (.fn a) (.ref a):=rfl
@[elab_as_elim] theorem RelV.eI {h:Heap} {a:Int} {v:Value} {P:Value→Prop} (r:RelV C h (.int a) v) (f: ∀t,P (.int a t)):P v:=by obtain ⟨t,rfl⟩:=rel_int r;exact f t
@[elab_as_elim] theorem RelV.eS {h:Heap} {a:Str} {v:Value} {P:Value→Prop} (r:RelV C h (.str a) v) (f: ∀t,P (.str a t)):P v:=by obtain ⟨t,rfl⟩:=rel_str r;exact f t
@[elab_as_elim] theorem RelV.eB {h:Heap} {a:Bool} {v:Value} {P:Value→Prop} (r:RelV C h (.bool a) v) (f:P (.bool a)):P v:=Eq.symm (rel_bool r)▸f
@[elab_as_elim] theorem RelV.eN {h:Heap} {v:Value} {P:Value→Prop} (r:RelV C h .none v) (f:P .none):P v:=Eq.symm (rel_none r)▸f
@[elab_as_elim] theorem RelV.eL {h:Heap} {a:Addr} {v:Value} {P:Value→Prop} (r:RelV C h (.lst a) v) (f:P (.ref a)):P v:=Eq.symm (rel_lst r)▸f
@[elab_as_elim] theorem RelV.eII {h:Heap} {a b:Int} {v w:Value} {P:Value→Value→Prop} (r:RelV C h (.int a) v) (q:RelV C h (.int b) w) (f: ∀t u,P (.int a t) (.int b u)):P v w:=r.eI fun t=>q.eI fun u=>f t u
@[elab_as_elim] theorem RelV.eSS {h:Heap} {a b:Str} {v w:Value} {P:Value→Value→Prop} (r:RelV C h (.str a) v) (q:RelV C h (.str b) w) (f: ∀t u,P (.str a t) (.str b u)):P v w:=r.eS fun t=>q.eS fun u=>f t u
theorem RelVs.nil {h:Heap}:RelVs C h [] []:=rfl
theorem RelVs.cons {h:Heap} {x:V} {v:Value} {xs:List V} {vs:List Value} (a:RelV C h x v) (b:RelVs C h xs vs):RelVs C h (x::xs) (v::vs):=⟨v,vs,rfl,a,b⟩
@[elab_as_elim] theorem RelVs.eZ {h:Heap} {vs:List Value} {P:List Value→Prop} (r:RelVs C h [] vs) (f:P []):P vs:=Eq.symm (show vs=[] from r)▸f
@[elab_as_elim] theorem RelVs.eC {h:Heap} {x:V} {xs:List V} {vs:List Value} {P:List Value→Prop} (r:RelVs C h (x::xs) vs) (f: ∀v w,RelV C h x v→RelVs C h xs w→P (v::w)):P vs:=by
 obtain ⟨v,w,rfl,r1,r2⟩:=r
 exact f v w r1 r2
theorem RelVs.len {h:Heap} {xs:List V} {vs:List Value} (e:RelVs C h xs vs):xs.length=vs.length:=by
 induction xs generalizing vs with
 |nil=>exact e.eZ rfl
 |cons x xs ih=>exact e.eC fun v w _ r=>congrArg Nat.succ (ih r)
theorem RelVs.append {h:Heap} {xs ys:List V} {vs ws:List Value} (e:RelVs C h xs vs) (f:RelVs C h ys ws):RelVs C h (xs++ys) (vs++ws):=by
 induction xs generalizing vs with
 |nil=>exact e.eZ f
 |cons x xs ih=>exact e.eC fun v w a r=> .cons a (ih r)
theorem RelVs.get {h:Heap} {xs:List V} {vs:List Value} {i:Nat} {x:V} (e:RelVs C h xs vs) (q:xs[i]? =some x): ∃v,vs[i]? =some v∧RelV C h x v:=by
 induction xs generalizing vs i with
 |nil=>cases q
 |cons y xs ih=>
  refine e.eC (P:=fun vs=> ∃v,vs[i]? =some v∧RelV C h x v) fun v w a r=>?_
  cases i with
  |zero=>cases q;exact ⟨v,rfl,a⟩
  |succ i=>exact ih (vs:=w) r q
theorem RelVs.set {h:Heap} {xs:List V} {vs:List Value} {i:Nat} {x:V} {v:Value} (e:RelVs C h xs vs) (q:RelV C h x v):RelVs C h (xs.set i x) (vs.set i v):=by
 induction xs generalizing vs i with
 |nil=>exact e.eZ .nil
 |cons y xs ih=>
  refine e.eC (P:=fun vs=>RelVs C h ((y::xs).set i x) (vs.set i v)) fun u w a r=>?_
  cases i with
  |zero=>exact .cons q r
  |succ i=>exact .cons a (ih r)
theorem RelVs.erase {h:Heap} {xs:List V} {vs:List Value} {i:Nat} (e:RelVs C h xs vs):RelVs C h (xs.eraseIdx i) (vs.eraseIdx i):=by
 induction xs generalizing vs i with
 |nil=>exact e.eZ .nil
 |cons y xs ih=>
  refine e.eC (P:=fun vs=>RelVs C h ((y::xs).eraseIdx i) (vs.eraseIdx i)) fun u w a r=>?_
  cases i with
  |zero=>exact r
  |succ i=>exact .cons a (ih r)
theorem RelVs.reverse {h:Heap} {xs:List V} {vs:List Value} (e:RelVs C h xs vs):RelVs C h xs.reverse vs.reverse:=by
 induction xs generalizing vs with
 |nil=>exact e.eZ .nil
 |cons x xs ih=>
  refine e.eC (P:=fun vs=>RelVs C h (x::xs).reverse vs.reverse) fun v w a r=>?_
  rw[List.reverse_cons,List.reverse_cons]
  exact (ih r).append (.cons a .nil)
theorem RelVs.take {h:Heap} {n:Nat} {xs:List V} {vs:List Value} (e:RelVs C h xs vs):RelVs C h (xs.take n) (vs.take n):=by
 induction xs generalizing vs n with
 |nil=>exact e.eZ (by rw[List.take_nil,List.take_nil];exact .nil)
 |cons x xs ih=>
  refine e.eC (P:=fun vs=>RelVs C h ((x::xs).take n) (vs.take n)) fun v w a r=>?_
  cases n with
  |zero=>exact .nil
  |succ n=>exact .cons a (ih r)
theorem RelVs.drop {h:Heap} {n:Nat} {xs:List V} {vs:List Value} (e:RelVs C h xs vs):RelVs C h (xs.drop n) (vs.drop n):=by
 induction xs generalizing vs n with
 |nil=>exact e.eZ (by rw[List.drop_nil,List.drop_nil];exact .nil)
 |cons x xs ih=>
  refine e.eC (P:=fun vs=>RelVs C h ((x::xs).drop n) (vs.drop n)) fun v w a r=>?_
  cases n with
  |zero=>exact .cons a r
  |succ n=>exact ih r
theorem get_size (h:Heap):h.get? h.objs.size=none:=by
 unfold Heap.get?;rw[Array.getElem?_eq_none (Nat.le_refl _)]
theorem RelVs.rep {h:Heap} {xs:List V} {vs:List Value} (r:RelVs C h xs vs) (n:Nat):RelVs C h (List.replicate n xs).flatten (List.replicate n vs).flatten:=by
 induction n with
 |zero=>exact .nil
 |succ n ih=>exact r.append ih
noncomputable def mulItems (items:Array Value) (x:Int):Array Value:=List.foldl (fun x1 x2=>x1++x2) #[] (List.replicate (if items.isEmpty=true then 0 else x.toNat) items)
theorem foldl_app (items:Array Value) (n:Nat) (a:Array Value):(List.foldl (fun x1 x2=>x1++x2) a (List.replicate n items)).toList=a.toList++(List.replicate n items.toList).flatten:=by
 induction n generalizing a with
 |zero=>exact (List.append_nil _).symm
 |succ n ih=>exact (ih _).trans (by rw[Array.toList_append,List.append_assoc];rfl)
theorem mulItems_list (items:Array Value) (x:Int):(mulItems items x).toList=(List.replicate x.toNat items.toList).flatten:=by
 unfold mulItems
 rw[foldl_app]
 by_cases e:items.isEmpty=true
 ·have:items.toList=[]:=by simpa using e
  simp[this,e]
 ·simp[e]
theorem mul_list0 {prog:Program} {w:World} {A:Around} {E:Value→Shared→Prop} {l:Addr} {items:Array Value} {k:Nat} {x:Int} {u:Tok} {Q:Value→Shared→Prop} (hlo: -(2^63:Int)≤x) (hhi:x<2^63) (hsz:items.size*x.toNat≤2^24)
  (hl:s.heap.get? l=some {cls:= .type "list",dict:=none,data:= .seq items k,slots:= #[]}) (h:Q (.ref s.heap.objs.size) {s with heap:=s.heap.push {cls:= .type "list",data:= .seq (mulItems items x)}}):
  wpAny (model prog w) A (binaryOp .Mult (.ref l) (.int x u)) Q E s:=
 wpAny_binaryOp_repeat_ref (T:="list") (U:="int") (by decide) ⟨_,hl,rfl⟩ (fun s'=>typeIs_int s' x u) noFill_list_mul F.fills_int_mul F.slot_int_rmul repeat_list F.slot_int_index.lookup
  (call_meets F.slot_int_rmul (typeIs_int s x u) F.entry_int_rmul (F.args_int_rmul_2 _ _) (int___rmul___int_list x u l items k)
   ⟨hl,rfl,⟨_,hl,rfl⟩,call_meets F.slot_list_mul ⟨_,hl,rfl⟩ F.entry_list_mul (F.args_list_mul_2 _ _)
    (AutoListH.list___mul___list_int_3 l items k x u (by simp[Builtin.List.listFitsIndex];lia) (by lia) (by simp[Builtin.List.listTooLong,sizeLine];lia))
    ⟨hl,h⟩⟩)
inductive OpR (Q:V→St→Prop) (σ:St):Operator→V→V→Prop
 |addI {a b:Int} (q:Q (.int (a+b)) σ):OpR Q σ .Add (.int a) (.int b)
 |addS {a b:Str} (h:a.length+b.length≤sizeLine) (q:Q (.str (a++b)) σ):OpR Q σ .Add (.str a) (.str b)
 |addL {a b:Addr} {xs ys:List V} (hx:σ.lists a=some xs) (hy:σ.lists b=some ys) (hn:xs.length+ys.length≤sizeLine) (q: ∀c,σ.lists c=none→Q (.lst c) (setL σ c (xs++ys))):OpR Q σ .Add (.lst a) (.lst b)
 |sub {a b:Int} (q:Q (.int (a-b)) σ):OpR Q σ .Sub (.int a) (.int b)
 |mulI {a b:Int} (h:IntMulOk a b) (q:Q (.int (a*b)) σ):OpR Q σ .Mult (.int a) (.int b)
 |mulL {a:Addr} {n:Int} {xs:List V} (hx:σ.lists a=some xs) (h1:n<2^63) (h0: -(2^63)≤n) (hz:xs.length*n.toNat≤2^24) (q: ∀c,σ.lists c=none→Q (.lst c) (setL σ c (List.replicate n.toNat xs).flatten)):OpR Q σ .Mult (.lst a) (.int n)
 |mulS {x:Str} {n:Int} (h1:1<n) (h2:n<100000) (h3:x.length=1) (hz:(⟨(List.replicate n.toNat x.cps).foldl (· ++ ·) #[]⟩:Str).length≤sizeLine) (q:Q (.str ⟨(List.replicate n.toNat x.cps).foldl (· ++ ·) #[]⟩) σ):OpR Q σ .Mult (.str x) (.int n)
 |div {a b:Int} (h:b≠0) (h':b.natAbs<1073741824) (q:Q (.int (a.fdiv b)) σ):OpR Q σ .FloorDiv (.int a) (.int b)
 |mod {a b:Int} (h:b≠0) (q:Q (.int (a.fmod b)) σ):OpR Q σ .Mod (.int a) (.int b)
 |pow {a n:Int} (h:0≤n) (h':n≤1000000) (h2:a.natAbs<2^64) (q:Q (.int (a^n.toNat)) σ):OpR Q σ .Pow (.int a) (.int n)
 |shl {a n:Int} (h:0≤n) (h':(Builtin.Int.intBits a:Int)+n≤2^27) (q:Q (.int (a*2^n.toNat)) σ):OpR Q σ .LShift (.int a) (.int n)
 |shr {a n:Int} (h:0≤n) (q:Q (.int (a.fdiv (2^n.toNat))) σ):OpR Q σ .RShift (.int a) (.int n)
 |and {a b:Int} (q:Q (.int (Builtin.bitAnd a b)) σ):OpR Q σ .BitAnd (.int a) (.int b)
 |or {a b:Int} (q:Q (.int (Builtin.bitOr a b)) σ):OpR Q σ .BitOr (.int a) (.int b)
 |xor {a b:Int} (q:Q (.int (Builtin.bitXor a b)) σ):OpR Q σ .BitXor (.int a) (.int b)
noncomputable def opPT (op:Operator) (x y:V):PT V:=fun Q σ=>OpR Q σ op x y
theorem Rel.at (R:Rel C env σ s) {a:Addr} {xs:List V} {P:Prop} (h:σ.lists a=some xs) (f: ∀items n,s.heap.get? a=some {cls:= .type "list",dict:=none,data:= .seq items n,slots:= #[]}→RelVs C s.heap xs items.toList→xs.length=items.size→P):P:=by
 obtain ⟨items,⟨n,l⟩,r,_⟩:=R.lists a xs h
 exact f items n l r r.len
theorem Rel.out (K:CtxOk C) (R:Rel C env σ s) {ys:List V} {items:Array Value} {Q:V→St→Prop} (r:RelVs C s.heap ys items.toList) (q: ∀c,σ.lists c=none→Q (.lst c) (Mine.setL σ c ys)):PostE C env σ s Q (.ref s.heap.objs.size) {s with heap:=s.heap.push {cls:= .type "list",data:= .seq items}}:=by
 obtain ⟨nl,R',S'⟩:=R.newL K (tk:=s.toks) (get_size _) ⟨_,Heap.get?_push_size _ rfl⟩ ((Grow.push _).rels r) (.push _)
 exact ⟨_,_,of_lst,R',S',rfl,q _ nl⟩
theorem op_sound (K:CtxOk C) {op:Operator} {x y:V} {vx vy:Value} {Q:V→St→Prop} (hE:EnvOk C env) (hR:Rel C env σ s) (rx:RelV C s.heap x vx) (ry:RelV C s.heap y vy)
  (q:opPT op x y Q σ):wpAny (model C.prog C.w) A (binaryOp op vx vy) (PostE C env σ s Q) NoE s:=by
 replace q:OpR Q σ op x y:=q
 induction q with
 |addI q=>exact rx.eII ry fun _ _=>add_int (.tok hR of_int q)
 |addS h q=>exact rx.eSS ry fun _ _=>add_str (fun _ _=> .tok hR of_str q) h
 |addL hx hy hn q=>exact rx.eL (ry.eL (hR.at hx fun its n1 l1 r1 e1=>hR.at hy fun jts n2 l2 r2 e2=>
   P.add_list l1 l2 (hR.out K (by rw[Array.toList_append];exact r1.append r2) q) (by rw[←e1,←e2];exact hn)))
 |sub q=>exact rx.eII ry fun _ _=>sub_int (.tok hR of_int q)
 |mulI h q=>exact rx.eII ry fun _ _=>mul_int (.tok hR of_int q) h
 |mulL hx h1 h0 hz q=>exact rx.eL (ry.eI fun u=>hR.at hx fun its n1 l1 r1 e1=>
   mul_list0 h0 h1 (by rw[←e1];exact hz) l1 (hR.out K (by rw[mulItems_list];exact r1.rep _) q))
 | @mulS x n h1 h2 h3 hz q=>
  refine rx.eS fun _=>ry.eI fun _=>?_
  have c1: ¬n<1:=Int.not_lt.mpr (Int.le_of_lt h1)
  have c2:(n==1||x.length==0)=false:=by
   rw[h3]
   exact Bool.or_eq_false_iff.mpr ⟨beq_false_of_ne (Int.ne_of_gt h1),rfl⟩
  refine P.mul_str (by simp only[Bool.or_eq_false_iff,decide_eq_false_iff_not];lia) (fun _ _=>?_) (fun _ _=>?_) ?_
  ·rw[h3]
   have:(1:Int)≤(2^63-1)/n:=Int.le_ediv_of_mul_le (by lia) (by lia)
   lia
  ·rw[h3];unfold Builtin.Str.tooLong;have hz:sizeLine=16777216:=rfl
   rw[hz,decide_eq_false_iff_not];lia
  ·rw[if_neg c1,c2]
   exact ⟨hz,.tok hR of_str q⟩
 |div h h' q=>exact rx.eII ry fun _ _=>floordiv_int h (.tok hR of_int q) (.inl (PyProof.noPylong_small h'))
 |mod h q=>exact rx.eII ry fun _ _=>mod_int' h (.tok hR of_int q)
 |pow h h' h2 q=>exact rx.eII ry fun _ _=>pow_int_small h h' h2 (.tok hR of_int q)
 |shl h h' q=>exact rx.eII ry fun _ _=>lshift_int h h' (.tok hR of_int q)
 |shr h q=>exact rx.eII ry fun _ _=>rshift_int h (.tok hR of_int q)
 |and q=>exact rx.eII ry fun _ _=>and_int (.tok hR of_int q)
 |or q=>exact rx.eII ry fun _ _=>or_int (.tok hR of_int q)
 |xor q=>exact rx.eII ry fun _ _=>xor_int (.tok hR of_int q)
end
end
section
open PySem PySem.Spec PySem.Calls PyProof.Rows PySem.W
noncomputable def V.py0:V→Option PyData
 | .none=>some .none
 | .bool b=>some (.bool b)
 | .int i=>some (.int i)
 | .str x=>some (.str x)
 |_=>Option.none
noncomputable def allSome {α β:Type} (f:α→Option β):List α→Option (List β)
 |[]=>some []
 |a::r=>match f a,allSome f r with
  |some b,some bs=>some (b::bs)
  |_,_=>Option.none
noncomputable def V.py1:V→Option PyData
 | .tup l=>(allSome V.py0 l).map .tuple
 |v=>v.py0
noncomputable def St.py (σ:St):V→Option PyData
 | .lst a=>match σ.lists a with
  |some xs=>(allSome V.py1 xs).map .list
  |Option.none=>Option.none
 |v=>v.py1
section
variable {C:Ctx} {env:Env} {σ σ₁ σ':St} {s s₁ s':Shared} {A:Around} {k:Nat} {sc:Scope}
theorem reads0 {h:Heap} {x:V} {v:Value} {d:PyData} (r:RelV C h x v) (e:x.py0=some d): ∃as,Reads h v d as∧d.depth=0:=by
 cases x with
 |none=>cases e;exact r.eN ⟨_,.none,rfl⟩
 |bool b=>cases e;exact r.eB ⟨_,.bool _,rfl⟩
 |int i=>cases e;exact r.eI fun t=>⟨_,.int _ _,rfl⟩
 |str x=>cases e;exact r.eS fun t=>⟨_,.str _ _,rfl⟩
 |_=>cases e
theorem readsAll {h:Heap} {f:V→Option PyData} {N:Nat} (hf: ∀{x:V} {v:Value} {d:PyData},RelV C h x v→f x=some d→ ∃as,Reads h v d as∧d.depth≤N)
  {xs:List V} {vs:List Value} {ds:List PyData} (r:RelVs C h xs vs) (e:allSome f xs=some ds): ∃as,ReadsAll h vs ds as∧PyData.depthAll ds≤N:=by
 induction xs generalizing vs ds with
 |nil=>cases e;exact r.eZ ⟨[],.nil,Nat.zero_le _⟩
 |cons x xs ih=>
  refine r.eC fun v w r1 r2=>?_
  simp only[allSome] at e
  cases h1:f x with
  |none=>rw[h1] at e;cases e
  |some b=>
   cases h2:allSome f xs with
   |none=>rw[h1,h2] at e;cases e
   |some bs=>
    rw[h1,h2] at e;cases e
    obtain ⟨as,q1,q2⟩:=hf r1 h1
    obtain ⟨bs',q3,q4⟩:=ih r2 h2
    exact ⟨as++bs',.cons q1 q3,Nat.max_le.mpr ⟨q2,q4⟩⟩
theorem reads1 {h:Heap} {x:V} {v:Value} {d:PyData} (r:RelV C h x v) (e:x.py1=some d): ∃as,Reads h v d as∧d.depth≤1:=by
 have z: ∀{x:V},RelV C h x v→x.py0=some d→ ∃as,Reads h v d as∧d.depth≤1:=fun r e=>let ⟨as,x,y⟩:=reads0 r e;⟨as,x,y▸Nat.zero_le 1⟩
 cases x with
 |tup l=>
  cases q:allSome V.py0 l with
  |none=>rw[V.py1,q] at e;cases e
  |some ds=>
   rw[V.py1,q] at e;cases e
   obtain ⟨a,items,rfl,⟨o,ho,hc,n,hd⟩,r⟩:=rel_tup r
   obtain ⟨as,q1,q2⟩:=readsAll (N:=0) (fun r e=>let ⟨as,x,y⟩:=reads0 r e;⟨as,x,Nat.le_of_eq y⟩) r q
   exact ⟨as,.tuple ho hc hd q1,Nat.succ_le_succ q2⟩
 |_=>exact z r e
theorem readsL (R:Rel C env σ s) {x:V} {v:Value} {d:PyData} (r:RelV C s.heap x v) (e:σ.py x=some d): ∃as,Reads s.heap v d as∧d.depth≤2:=by
 have z: ∀{x:V},RelV C s.heap x v→x.py1=some d→ ∃as,Reads s.heap v d as∧d.depth≤2:=fun r e=>let ⟨as,x,y⟩:=reads1 r e;⟨as,x,Nat.le_succ_of_le y⟩
 cases x with
 |lst a=>
  cases hx:σ.lists a with
  |none=>rw[St.py,hx] at e;cases e
  |some xs=>
   cases q:allSome V.py1 xs with
   |none=>rw[St.py,hx] at e;simp only[q] at e;cases e
   |some ds=>
    rw[St.py,hx] at e;simp only[q] at e;cases e
    refine r.eL (R.at hx fun items n l1 l2 _=>?_)
    obtain ⟨as,q1,q2⟩:=readsAll (N:=1) reads1 l2 q
    exact ⟨_,.list l1 rfl rfl q1,Nat.succ_le_succ q2⟩
 |_=>exact z r e
theorem beqI (a b:Int):(a==b)=decide (a=b):=rfl
theorem beqS (a b:Str):(a==b)=decide (a=b):=by by_cases h:a=b<;>simp[h]
noncomputable def isNone:V→Option Bool
 | .none=>some true
 | .int _=>some false
 | .str _=>some false
 | .bool _=>some false
 | .lst _=>some false
 |_=>Option.none
inductive CmpR (Q:Bool→St→Prop) (σ:St):CmpOp→V→V→Prop
 |eqI {a b:Int} (q:Q (decide (a=b)) σ):CmpR Q σ .Eq (.int a) (.int b)
 |neI {a b:Int} (q:Q (!decide (a=b)) σ):CmpR Q σ .NotEq (.int a) (.int b)
 |lt {a b:Int} (q:Q (decide (a<b)) σ):CmpR Q σ .Lt (.int a) (.int b)
 |le {a b:Int} (q:Q (decide (a≤b)) σ):CmpR Q σ .LtE (.int a) (.int b)
 |gt {a b:Int} (q:Q (decide (b<a)) σ):CmpR Q σ .Gt (.int a) (.int b)
 |eqS {a b:Str} (q:Q (decide (a=b)) σ):CmpR Q σ .Eq (.str a) (.str b)
 |neS {a b:Str} (q:Q (!decide (a=b)) σ):CmpR Q σ .NotEq (.str a) (.str b)
 |eqB {a b:Bool} (q:Q (a==b) σ):CmpR Q σ .Eq (.bool a) (.bool b)
 |isB {a b:Bool} (q:Q (a==b) σ):CmpR Q σ .Is (.bool a) (.bool b)
 |isN {x:V} {b:Bool} (e:isNone x=some b) (q:Q b σ):CmpR Q σ .Is x .none
 |notN {x:V} {b:Bool} (e:isNone x=some b) (q:Q (!b) σ):CmpR Q σ .IsNot x .none
 |inS {x y:Str} (q:Q (!(Builtin.Str.occurrences x y 0 x.length 1).isEmpty) σ):CmpR Q σ .In (.str y) (.str x)
 |notS {x y:Str} (q:Q (!(!(Builtin.Str.occurrences x y 0 x.length 1).isEmpty)) σ):CmpR Q σ .NotIn (.str y) (.str x)
 |inL {x:V} {a:Addr} {xs:List V} {ds:List PyData} {d:PyData} (h:σ.lists a=some xs) (e:allSome V.py0 xs=some ds) (f:x.py0=some d) (c:PyData.canLayAll0 ds=true) (c':d.canLay0=true) (q:Q (ds.any fun y=>PyData.eqv y d) σ):CmpR Q σ .In x (.lst a)
 |eq {x y:V} {d e:PyData} (h:σ.py x=some d) (h':σ.py y=some e) (c:d.canLay0=true) (c':e.canLay0=true) (q:Q (PyData.eqv d e) σ):CmpR Q σ .Eq x y
 |ne {x y:V} {d e:PyData} (h:σ.py x=some d) (h':σ.py y=some e) (c:d.canLay0=true) (c':e.canLay0=true) (q:Q (!PyData.eqv d e) σ):CmpR Q σ .NotEq x y
noncomputable def cmpPT (op:CmpOp) (x y:V):PT Bool:=fun Q σ=>CmpR Q σ op x y
theorem isNone_is {h:Heap} {x:V} {v:Value} {b:Bool} (r:RelV C h x v) (e:isNone x=some b):(v== .none)=b:=by
 cases x with
 |none=>cases e;exact r.eN rfl
 |bool _=>cases e;exact r.eB rfl
 |int _=>cases e;exact r.eI fun _=>rfl
 |str _=>cases e;exact r.eS fun _=>rfl
 |lst _=>cases e;exact r.eL rfl
 |_=>cases e
theorem units_ok {A:Around} {k n:Nat} (hL:Lim k A) (hn:n≤100):A.units+n<cLine:=
 Nat.lt_of_le_of_lt (Nat.add_le_add (Nat.le_trans (Nat.le_add_right _ _) hL.units) hn) (by decide)
inductive PostC (C:Ctx) (env:Env) (σ:St) (s:Shared) (Q:Bool→St→Prop) (v:Value) (s':Shared):Prop
 |mk (b:Bool) (e:v= .bool b) (p:PostB C env σ s Q b s'):PostC C env σ s Q v s'
theorem PostC.now {Q:Bool→St→Prop} {b:Bool} (R:Rel C env σ s) (q:Q b σ):PostC C env σ s Q (.bool b) s:=⟨b,rfl,.now R q⟩
theorem cmp_sound (K:CtxOk C) {op:CmpOp} {x y:V} {vx vy:Value} {Q:Bool→St→Prop} (hE:EnvOk C env) (hL:Lim k A) (hR:Rel C env σ s) (rx:RelV C s.heap x vx) (ry:RelV C s.heap y vy)
  (q:cmpPT op x y Q σ):wpAny (model C.prog C.w) A (compareOp op vx vy) (PostC C env σ s Q) NoE s:=by
 have un: ∀{d e:PyData},d.depth≤2→e.depth≤2→A.units+min d.depth e.depth<cLine:=fun h _=>units_ok hL (Nat.le_trans (Nat.min_le_left _ _) (Nat.le_trans h (by decide)))
 replace q:CmpR Q σ op x y:=q
 induction q with
 |eqI q=>exact rx.eII ry fun _ _=>eq_int (.now hR q)
 |neI q=>exact rx.eII ry fun _ _=>ne_int (.now hR q)
 |lt q=>exact rx.eII ry fun _ _=>lt_int (.now hR q)
 |le q=>exact rx.eII ry fun _ _=>P.le_int (.now hR q)
 |gt q=>exact rx.eII ry fun _ _=>gt_int (.now hR q)
 |eqS q=>exact rx.eSS ry fun _ _=>PyProof.Rows.eq_str (.now hR (by rw[beqS];exact q))
 |neS q=>exact rx.eSS ry fun _ _=>PyProof.Rows.ne_str (.now hR (by rw[bne,beqS];exact q))
 |eqB q=>exact rx.eB (ry.eB (PyProof.Rows.eq_bool (.now hR q)))
 |isB q=>exact rx.eB (ry.eB (is_bool (.now hR q)))
 |isN e q=>exact ry.eN (is_none (.now hR (isNone_is rx e▸q)))
 |notN e q=>exact ry.eN (isNot_none (.now hR (isNone_is rx e▸q)))
 |inS q=>exact rx.eSS ry fun _ _=>PyProof.Rows.in_str (.now hR q)
 |notS q=>exact rx.eSS ry fun _ _=>PyProof.Rows.notIn_str (.now hR q)
 |inL h e f c c' q=>
  refine ry.eL (hR.at h fun items n l1 l2 _=>?_)
  obtain ⟨as,q1,q2⟩:=readsAll (N:=0) (fun r e=>let ⟨as,x,y⟩:=reads0 r e;⟨as,x,Nat.le_of_eq y⟩) l2 e
  obtain ⟨bs,q3,q4⟩:=reads0 rx f
  exact PySem.SeqAt.in_list_reads (.list l1 rfl rfl q1) q3 c c' (by have:=units_ok hL (n:=50) (by decide);lia) (.now hR q)
 |eq h h' c c' q=>
  obtain ⟨as,q1,q2⟩:=readsL hR rx h
  obtain ⟨bs,q3,q4⟩:=readsL hR ry h'
  exact PySem.SeqAt.compareEq_reads q1 q3 c c' (un q2 q4) (.now hR q)
 |ne h h' c c' q=>
  obtain ⟨as,q1,q2⟩:=readsL hR rx h
  obtain ⟨bs,q3,q4⟩:=readsL hR ry h'
  exact PySem.SeqAt.compareNe_reads q1 q3 c c' (un q2 q4) (.now hR q)
inductive TR (Q:Bool→St→Prop) (σ:St):V→Prop
 |none (q:Q false σ):TR Q σ .none
 |bool {b:Bool} (q:Q b σ):TR Q σ (.bool b)
 |int {i:Int} (q:Q (decide (i≠0)) σ):TR Q σ (.int i)
 |str {x:Str} (h:x.length≤sizeLine) (q:Q (decide (x.length≠0)) σ):TR Q σ (.str x)
 |lst {a:Addr} {xs:List V} (h:σ.lists a=some xs) (hz:xs.length≤sizeLine) (q:Q (!xs.isEmpty) σ):TR Q σ (.lst a)
noncomputable def tPT (x:V):PT Bool:=fun Q σ=>TR Q σ x
theorem lt63 {n:Nat} (h:n≤sizeLine):(n:Int)<2^63:=Int.lt_of_le_of_lt (Int.ofNat_le.mpr h) (by decide)
theorem t_sound {x:V} {v:Value} {Q:Bool→St→Prop} (hR:Rel C env σ s) (r:RelV C s.heap x v) (q:tPT x Q σ):wpAny (model C.prog C.w) A (truthy v) (PostB C env σ s Q) NoE s:=by
 replace q:TR Q σ x:=q
 induction q with
 |none q=>exact r.eN (truthy_none (.now hR q))
 |bool q=>exact r.eB (wpAny_truthy_bool (.now hR q))
 |int q=>exact r.eI fun _=>PyProof.Rows.truthy_int (.now hR (by rw[bne,beqI,←decide_not];exact q))
 |str h q=>
  refine r.eS fun _=>P.truthy_str (Int.not_le.mpr (lt63 h)) (.tok hR ?_)
  rw[show ∀a:Nat,(((a:Int)) != 0)=decide (a≠0) from fun a=>by by_cases h:a=0<;>simp[bne,h]]
  exact q
 | @lst a xs h hz q=>
  refine r.eL (hR.at h fun items n l1 l2 e=>wpAny_truthy_list ⟨_,l1,rfl,_,rfl⟩ (lt63 (e▸hz)) (.tok hR ?_))
  have:(!items.isEmpty)=(!xs.isEmpty):=by
   have h1:items.isEmpty=decide (items.size=0):=rfl
   have h2:xs.isEmpty=decide (xs.length=0):=by cases xs<;>rfl
   rw[h1,h2,e]
  rw[this];exact q
end
end
section
open PySem PySem.Spec PySem.Calls PyProof.Rows PySem.W
section
variable {C:Ctx} {k:Nat} {sc:Scope}
noncomputable def ptBin (op:Operator) (P R:PT V):PT V:=fun Q σ=>P (fun a σ₁=>R (fun b σ₂=>opPT op a b Q σ₂) σ₁) σ
theorem s_bin (K:CtxOk C) {op:Operator} {P R:PT V} {l r:Expr} {pos:Pos} (hl:SoundE C k sc P l) (hr:SoundE C k sc R r):SoundE C k sc (ptBin op P R) (.BinOp l op r pos):=
 .mk fun env A σ s Q hs hE hL hR q=>wpAny_BinOp (hl.bind hs hE hL hR q fun a s₁ x σ₁ r1 R1 S1 v1 q=>hr.bind hs hE hL R1 q fun b s₂ y σ₂ r2 R2 S2 v2 q=>
  backE S1 v1 (backE S2 v2 (op_sound K hE R2 (S2.relE K R1 r1) r2 q)))
noncomputable def ptCmp (op:CmpOp) (P R:PT V):PT Bool:=fun Q σ=>P (fun a σ₁=>R (fun b σ₂=>cmpPT op a b Q σ₂) σ₁) σ
noncomputable def ptOfB (P:PT Bool):PT V:=fun Q σ=>P (fun b σ₁=>Q (.bool b) σ₁) σ
theorem wpC {t:Sem Value} {env:Env} {A:Around} {σ:St} {s s₀:Shared} {Q:Bool→St→Prop} {R:Value→Shared→Prop} (h:wpAny (model C.prog C.w) A t (PostC C env σ s₀ Q) NoE s)
  (f: ∀b s₁,PostB C env σ s₀ Q b s₁→R (.bool b) s₁):wpAny (model C.prog C.w) A t R NoE s:=
 wpAny_mono h (fun v s₁ p=>p.casesOn fun b e p=>e▸f b s₁ p) fun _ _ x=>x
theorem PostB.e {env:Env} {σ:St} {s s₁:Shared} {Q:V→St→Prop} {b:Bool} {g:Bool→Bool} (p:PostB C env σ s (fun b σ=>Q (.bool (g b)) σ) b s₁):PostE C env σ s Q (.bool (g b)) s₁:=
 p.casesOn fun σ' R S e q=>⟨_,σ',of_bool,R,S,e,q⟩
theorem s_cmpB (K:CtxOk C) {op:CmpOp} {P R:PT V} {l r:Expr} {pos:Pos} (hl:SoundE C k sc P l) (hr:SoundE C k sc R r) (hm:behindInMarks op r=false):
  SoundB C k sc (ptCmp op P R) (.Compare l [op] [r] pos):= .mk fun env A σ s Q hs hE hL hR q=>wpAny_isTrue_Compare1 (hl.bind hs hE hL hR q fun a s₁ x σ₁ r1 R1 S1 v1 q=>hr.bind hs hE hL R1 q fun b s₂ y σ₂ r2 R2 S2 v2 q=>
   wpC (cmp_sound K hE hL R2 (S2.relE K R1 r1) r2 q) fun b s₃ p=>wpAny_truthy_bool ((p.back S2 v2).back S1 v1)) hm
theorem s_cmp (K:CtxOk C) {op:CmpOp} {P R:PT V} {l r:Expr} {pos:Pos} (hl:SoundE C k sc P l) (hr:SoundE C k sc R r) (hm:behindInMarks op r=false):
  SoundE C k sc (ptOfB (ptCmp op P R)) (.Compare l [op] [r] pos):= .mk fun env A σ s Q hs hE hL hR q=>wpAny_Compare1 (hl.bind hs hE hL hR q fun a s₁ x σ₁ r1 R1 S1 v1 q=>hr.bind hs hE hL R1 q fun b s₂ y σ₂ r2 R2 S2 v2 q=>
   wpC (cmp_sound K hE hL R2 (S2.relE K R1 r1) r2 q) fun b s₃ p=>PostB.e (g:=id) ((p.back S2 v2).back S1 v1)) hm
inductive UnR (Q:V→St→Prop) (σ:St):UnaryOp→V→Prop
 |neg {a:Int} (q:Q (.int (-a)) σ):UnR Q σ .USub (.int a)
 |not {a:Int} (q:Q (.int (Builtin.bitNot a)) σ):UnR Q σ .Invert (.int a)
noncomputable def unPT (op:UnaryOp) (x:V):PT V:=fun Q σ=>UnR Q σ op x
noncomputable def ptUn (op:UnaryOp) (P:PT V):PT V:=fun Q σ=>P (fun a σ₁=>unPT op a Q σ₁) σ
theorem un_sound {env:Env} {A:Around} {σ:St} {s:Shared} {op:UnaryOp} {x:V} {v:Value} {Q:V→St→Prop} (hR:Rel C env σ s) (r:RelV C s.heap x v) (q:UnR Q σ op x):wpAny (model C.prog C.w) A (unaryOp op v) (PostE C env σ s Q) NoE s:=by
 induction q with
 |neg q=>exact r.eI fun _=>PySem.P.neg_int (.tok hR of_int q)
 |not q=>exact r.eI fun _=>invert_int (.tok hR of_int q)
theorem s_un {op:UnaryOp} {P:PT V} {e:Expr} {pos:Pos} (h:SoundE C k sc P e):SoundE C k sc (ptUn op P) (.UnaryOp op e pos):= .mk fun env A σ s Q hs hE hL hR q=>
 wpAny_UnaryOp (h.bind hs hE hL hR q fun a s₁ x σ₁ r1 R1 S1 v1 q=>backE S1 v1 (un_sound R1 r1 q))
noncomputable def ptNot (P:PT V):PT V:=fun Q σ=>P (fun a σ₁=>tPT a (fun b σ₂=>Q (.bool (!b)) σ₂) σ₁) σ
theorem s_not {P:PT V} {e:Expr} {pos:Pos} (h:SoundE C k sc P e):SoundE C k sc (ptNot P) (.UnaryOp .Not e pos):= .mk fun env A σ s Q hs hE hL hR q=>
 wpAny_UnaryOp (h.bind hs hE hL hR q fun a s₁ x σ₁ r1 R1 S1 v1 q=>not_of (wpAny_mono (t_sound R1 r1 q) (fun b s₂ p=>PostB.e (g:=not) (p.back S1 v1)) fun _ _ x=>x))
noncomputable def ptT (P:PT V):PT Bool:=fun Q σ=>P (fun a σ₁=>tPT a Q σ₁) σ
theorem s_t {P:PT V} {e:Expr} (h:SoundE C k sc P e) (he: ∀env:Env,isTrue e env (eval e env)=(do let v ←eval e env;standAt e.pos;holding [v] (truthy v))):SoundB C k sc (ptT P) e:=
 .mk fun env A σ s Q hs hE hL hR q=>isTrue_plain (h.bind hs hE hL hR q fun a s₁ x σ₁ r1 R1 S1 v1 q=>backB S1 v1 (t_sound R1 r1 q)) (he env)
noncomputable def ptNotB (P:PT Bool):PT Bool:=fun Q σ=>P (fun b σ₁=>Q (!b) σ₁) σ
theorem s_notB {P:PT Bool} {e:Expr} {pos:Pos} (h:SoundB C k sc P e):SoundB C k sc (ptNotB P) (.UnaryOp .Not e pos):= .mk fun env A σ s Q hs hE hL hR q=>
 isTrue_not (h.bind hs hE hL hR q fun b s₁ σ' a b' c d=>⟨σ',a,b',c,d⟩)
noncomputable def ptAll (op:BoolOp) (Ps:List (PT Bool)):PT Bool:=match op,Ps with
 | .And,[]=>fun Q σ=>Q true σ
 | .Or,[]=>fun Q σ=>Q false σ
 | .And,P::r=>fun Q σ=>P (fun b σ₁=>if b=true then ptAll .And r Q σ₁ else Q false σ₁) σ
 | .Or,P::r=>fun Q σ=>P (fun b σ₁=>if b=true then Q true σ₁ else ptAll .Or r Q σ₁) σ
inductive SoundBs (C:Ctx) (k:Nat) (sc:Scope):List (PT Bool)→List Expr→Prop
 |nil:SoundBs C k sc [] []
 |cons {P:PT Bool} {Ps:List (PT Bool)} {e:Expr} {es:List Expr} (a:SoundB C k sc P e) (b:SoundBs C k sc Ps es):SoundBs C k sc (P::Ps) (e::es)
theorem all_sound {op:BoolOp} {Ps:List (PT Bool)} {es:List Expr} (h:SoundBs C k sc Ps es) {env:Env} {A:Around} (hs:env.scope=sc) (hE:EnvOk C env) (hL:Lim k A) {σ:St} {s:Shared} {Q:Bool→St→Prop} (hR:Rel C env σ s)
  (q:ptAll op Ps Q σ):wpAny (model C.prog C.w) A (allTrue op es env) (PostB C env σ s Q) NoE s:=by
 induction h generalizing σ s with
 |nil=>
  cases op with
  |And=>exact wpAny_allTrue_And_nil (.now hR q)
  |Or=>exact wpAny_allTrue_Or_nil (.now hR q)
 |cons h t ih=>
  cases op with
  |And=>exact wpAny_allTrue_And_cons (h.bind hs hE hL hR q fun b s₁ σ₁ R1 S1 v1 q=>onB q (fun q=>backB S1 v1 (ih R1 q)) fun q=>(PostB.now R1 q).back S1 v1)
  |Or=>exact wpAny_allTrue_Or_cons (h.bind hs hE hL hR q fun b s₁ σ₁ R1 S1 v1 q=>onB q (fun q=>(PostB.now R1 q).back S1 v1) fun q=>backB S1 v1 (ih R1 q))
theorem s_boolop {op:BoolOp} {Ps:List (PT Bool)} {es:List Expr} {pos:Pos} (h:SoundBs C k sc Ps es):SoundB C k sc (ptAll op Ps) (.BoolOp op es pos):= .mk fun env A σ s Q hs hE hL hR q=>
 wpAny_isTrue_BoolOp (all_sound h hs hE hL hR q)
noncomputable def ptOr (P R:PT V):PT V:=fun Q σ=>P (fun a σ₁=>tPT a (fun b σ₂=>if b=true then Q a σ₂ else R Q σ₂) σ₁) σ
theorem s_or (K:CtxOk C) {P R:PT V} {l r:Expr} {pos:Pos} (hl:SoundE C k sc P l) (hr:SoundE C k sc R r):SoundE C k sc (ptOr P R) (.BoolOp .Or [l,r] pos):= .mk fun env A σ s Q hs hE hL hR q=>
 wpAny_Or2 (hl.bind hs hE hL hR q fun a s₁ x σ₁ r1 R1 S1 v1 q=>wpB (t_sound R1 r1 q) fun b s₂ σ₂ R2 S2 v2 q=>
  onB q (fun q=>((PostE.now R2 (S2.relE K R1 r1) q).back S2 v2).back S1 v1) fun q=>backE S1 v1 (backE S2 v2 (hr.run hs hE hL R2 q)))
noncomputable def ptIfE (P:PT Bool) (R T:PT V):PT V:=fun Q σ=>P (fun b σ₁=>if b=true then R Q σ₁ else T Q σ₁) σ
theorem s_ifE {P:PT Bool} {R T:PT V} {t b o:Expr} {pos:Pos} (ht:SoundB C k sc P t) (hb:SoundE C k sc R b) (ho:SoundE C k sc T o):SoundE C k sc (ptIfE P R T) (.IfExp t b o pos):=
 .mk fun env A σ s Q hs hE hL hR q=>wpAny_IfExp (ht.bind hs hE hL hR q fun b s₁ σ₁ R1 S1 v1 q=>onB q (fun q=>backE S1 v1 (hb.run hs hE hL R1 q)) fun q=>backE S1 v1 (ho.run hs hE hL R1 q))
noncomputable def ptGlob (x:V):PT V:=fun Q σ=>Q x σ
theorem s_glob {x:Str} {pos:Pos} {d:V} {v:Value} {mg:Str→Option Value} (hg: ∀h:Heap,(∀b o,C.base.get? b=some o→b∉C.tabs→h.get? b=some o)→h.Ns mainGlobals mg) (hv:mg x=some v) (hr: ∀h,RelV C h d v)
  (hl:sc.names.lookup x=some .globalImplicit) (hd:(x==("__debug__" :Str))=false):SoundE C k sc (ptGlob d) (.Name x pos):= .mk fun env A σ s Q hs hE hL hR q=>by
 subst hs
 exact Name_function_global hE.kind hl (loadGlobal_global (by rw[hE.globals];exact hg _ hR.keep) hv (PostE.now hR (hr _) q)) hd
end
end
section
open PySem PySem.Spec PySem.Calls PyProof.Rows PySem.W
structure RelG (C:Ctx) (σ:St) (s:Shared):Prop where
 base:BaseOk C s
 bare:C.gOk s.gens
 lists: ∀a xs,σ.lists a=some xs→ListAt C s.heap a xs
section
variable {C:Ctx} {env:Env} {σ σ₁ σ':St} {s s₁ s':Shared} {A:Around} {k:Nat} {sc:Scope}
theorem Rel.g (R:Rel C env σ s):RelG C σ s:=⟨R.base,R.bare,R.lists⟩
theorem Rel.notNs (R:Rel C env σ s) {a:Addr} {m:Str→Option Value} (x:s.heap.Ns a m):σ.lists a=none:=by
 cases q:σ.lists a with
 |none=>rfl
 |some l=>exact (R.lists a l q).casesOn fun _ l _ _=>(list_ne_ns l x).elim
theorem Rel.notCell (R:Rel C env σ s) {a:Addr} {v:Option Value} (x:s.heap.IsCell a v):σ.lists a=none:=by
 cases q:σ.lists a with
 |none=>rfl
 |some l=>exact (R.lists a l q).casesOn fun _ l _ _=>(list_ne_cell l x).elim
theorem Rel.after (K:CtxOk C) (hE:EnvOk C env) (R:Rel C env σ s) (G:RelG C σ' s') (S:Step (XE C σ) σ σ' s s'):Rel C env ⟨σ.vars,σ'.lists,σ.ro⟩ s':=by
 have nx: ∀{a:Addr} {o:Obj},s.heap.get? a=some o→σ.lists a=none→C.base.get? a=none→s'.heap.get? a=some o:=fun e l b=>
  S.kept _ _ e fun x=>x.elim (fun x=>by rw[l] at x;cases x) (not_tab K b)
 have hcell: ∀{x:Str} {c:Addr} {v:Option Value},env.cells.lookup x=some c→s.heap.IsCell c v→s'.heap.IsCell c v:=fun hx z=>
  z.imp fun o y=>⟨nx y.1 (R.notCell z) (hE.cfresh _ _ (PySem.mem_of_lookup hx)),y.2⟩
 exact ⟨G.base,G.bare,R.vars.imp fun m v=>⟨v.1.imp fun o x=>x.imp fun _ x=>x.imp fun _ x=>x.imp_left fun e=>nx e (R.notNs v.1) hE.fresh,fun i x e=>(v.2 i x e).move (S.relE K R) hcell⟩,G.lists,
  fun x c e=>(R.cells x c e).imp fun _=>hcell e,fun a o e=>(R.ro a o e).casesOn fun z n nc l b=>⟨nx z l b,n,nc,S.dom a o z l,b⟩⟩
noncomputable abbrev Con:=List V→PT V
inductive PostG (C:Ctx) (σ:St) (s:Shared) (Q:V→St→Prop) (v:Value) (s':Shared):Prop
 |mk (x:V) (σ':St) (r:RelV C s'.heap x v) (R:RelG C σ' s') (S:Step (XE C σ) σ σ' s s') (e:σ'.vars=σ.vars) (f:σ'.ro=σ.ro) (q:Q x σ'):PostG C σ s Q v s'
noncomputable def FnSound (C:Ctx) (k:Nat) (f:Addr) (T:Con):Prop:=
 ∀(A:Around) (σ:St) (s:Shared) (Q:V→St→Prop) (ds:List V) (vs:List Value),Lim k A→RelG C σ s→RelVs C s.heap ds vs→T ds Q σ→
  wpAny (model C.prog C.w) A (call (.ref f) vs) (PostG C σ s Q) NoE s
theorem Lim.le {k':Nat} (h:Lim k A) (hk:k'≤k):Lim k' A:=⟨h.handled,Nat.le_trans (Nat.add_le_add_left hk _) h.depth,Nat.le_trans (Nat.add_le_add_left (Nat.mul_le_mul_left 12 hk) _) h.units⟩
theorem FnSound.le {k':Nat} {f:Addr} {T:Con} (h:FnSound C k f T) (hk:k≤k'):FnSound C k' f T:=fun A σ s Q ds vs hL hR r q=>h A σ s Q ds vs (hL.le hk) hR r q
noncomputable def ptArgs:List (PT V)→(List V→St→Prop)→St→Prop
 |[],Q,σ=>Q [] σ
 |P::r,Q,σ=>P (fun x σ₁=>ptArgs r (fun xs σ₂=>Q (x::xs) σ₂) σ₁) σ
noncomputable def SoundEs (C:Ctx) (k:Nat) (sc:Scope):List (PT V)→List Expr→Prop
 |[],[]=>True
 |P::Ps,e::es=>(SoundE C k sc P e∧ ∀(es:List Expr) (env:Env),starEach (e::es) env=(false,eval e env)::starEach es env)∧SoundEs C k sc Ps es
 |_,_=>False
theorem SoundEs.nil:SoundEs C k sc [] []:=trivial
theorem SoundEs.cons {P:PT V} {Ps:List (PT V)} {e:Expr} {es:List Expr} (a:SoundE C k sc P e) (b:SoundEs C k sc Ps es)
  (h: ∀(es:List Expr) (env:Env),starEach (e::es) env=(false,eval e env)::starEach es env):SoundEs C k sc (P::Ps) (e::es):=⟨⟨a,h⟩,b⟩
theorem SoundEs.hd {P:PT V} {Ps:List (PT V)} {e:Expr} {es:List Expr} (h:SoundEs C k sc (P::Ps) (e::es)) (env:Env):starEach (e::es) env=(false,eval e env)::starEach es env:=h.1.2 es env
@[elab_as_elim] theorem SoundEs.ind {G:List (PT V)→List Expr→Prop} {Ps:List (PT V)} {es:List Expr} (h:SoundEs C k sc Ps es) (n:G [] [])
  (c: ∀P Ps e es,SoundE C k sc P e→(∀(es:List Expr) (env:Env),starEach (e::es) env=(false,eval e env)::starEach es env)→G Ps es→G (P::Ps) (e::es)):G Ps es:=by
 induction Ps generalizing es with
 |nil=>
  cases es with
  |nil=>exact n
  |cons=>exact h.elim
 |cons P Ps ih=>
  cases es with
  |nil=>exact h.elim
  |cons e es=>exact c P Ps e es h.1.1 h.1.2 (ih h.2)
inductive PostL (C:Ctx) (env:Env) (σ:St) (s:Shared) (Q:List V→St→Prop) (vs:List Value) (s':Shared):Prop
 |mk (xs:List V) (σ':St) (r:RelVs C s'.heap xs vs) (R:Rel C env σ' s') (S:Step (XE C σ) σ σ' s s') (e:σ'.vars=σ.vars) (q:Q xs σ'):PostL C env σ s Q vs s'
theorem wpL {t:Sem (List Value)} {s₀:Shared} {Q:List V→St→Prop} {R:List Value→Shared→Prop} (h:wpAny (model C.prog C.w) A t (PostL C env σ s₀ Q) NoE s)
  (f: ∀vs s₁ xs σ₁,RelVs C s₁.heap xs vs→Rel C env σ₁ s₁→Step (XE C σ) σ σ₁ s₀ s₁→σ₁.vars=σ.vars→Q xs σ₁→R vs s₁):wpAny (model C.prog C.w) A t R NoE s:=
 wpAny_mono h (fun v s₁ p=>p.casesOn fun x σ₁ r R S e q=>f v s₁ x σ₁ r R S e q) fun _ _ x=>x
theorem args_sound (K:CtxOk C) {pos:Pos} {Ps:List (PT V)} {es:List Expr} (h:SoundEs C k sc Ps es) {Q:List V→St→Prop} (hs:env.scope=sc) (hE:EnvOk C env) (hL:Lim k A) (hR:Rel C env σ s)
  (q:ptArgs Ps Q σ):wpAny (model C.prog C.w) A (spliced (backTo pos (starEach es env))) (PostL C env σ s Q) NoE s:=by
 refine h.ind (G:=fun Ps es=> ∀{σ s Q},Rel C env σ s→ptArgs Ps Q σ→wpAny (model C.prog C.w) A (spliced (backTo pos (starEach es env))) (PostL C env σ s Q) NoE s) (fun {σ s Q} hR q=>spliced_nil ⟨[],σ,.nil,hR,Step.refl,rfl,q⟩) (fun P Ps e es h he ih {σ s Q} hR q=>?_) hR q
 rw[he es env]
 exact spliced_cons (rest:=backTo pos (starEach es env)) (h.bind hs hE hL hR q fun v s₁ x σ₁ r1 R1 S1 v1 q=>wpL (ih R1 q) fun vs s₂ xs σ₂ r2 R2 S2 v2 q=>
  ⟨x::xs,σ₂,RelVs.cons (S2.relE K R1 r1) r2,R2,S1.transE S2,v2.trans v1,q⟩)
noncomputable def ptCall (T:Con) (Ps:List (PT V)):PT V:=fun Q σ=>ptArgs Ps (fun xs σ₁=>T xs (fun x σ₂=>Q x ⟨σ₁.vars,σ₂.lists,σ₁.ro⟩) σ₁) σ
theorem s_call (K:CtxOk C) {T:Con} {f:Addr} {o:Obj} {fd:FuncData} {x:Str} {np pos:Pos} {P:PT V} {Ps:List (PT V)} {e:Expr} {es:List Expr} {mg:Str→Option Value}
  (hf:FnSound C k f T) (hob:C.base.get? f=some o) (hnt:f∉C.tabs) (hdat:o.data= .func fd)
  (hn:SoundE C k sc (ptGlob (.fn f)) (.Name x np)) (ha:SoundEs C k sc (P::Ps) (e::es)):
  SoundE C k sc (ptCall T (P::Ps)) (.Call (.Name x np) (e::es) [] pos):= .mk fun env A σ s Q hs hE hL hR q=>
 wpAny_Call_NameR (hn.bind (Q:=fun d σ₁=>d= .fn f∧ptCall T (P::Ps) Q σ₁) hs hE hL hR ⟨rfl,q⟩ fun v s₁ d σ₁ r1 R1 S1 v1 q=>by
  cases rel_fn (q.1▸r1)
  exact callWith_def hdat (wpL (args_sound K ha hs hE hL R1 q.2) fun vs s₂ xs σ₂ r2 R2 S2 v2 q=>⟨R2.keep f o hob hnt,
   wpAny_mono (hf A σ₂ s₂ _ xs vs hL R2.g r2 q) (fun v s₃ p=>p.casesOn fun y σ₃ r3 R3 S3 v3 ro3 q=>
    ⟨y,_,r3,R2.after K hE R3 S3,(S1.transE S2).transE ⟨S3.kept,S3.there,S3.dom,S3.mono,fun _ _ _=> .inl rfl⟩,v2.trans v1,q⟩) fun _ _ x=>x⟩) (ha.hd env))
end
end
section
open PySem PySem.Spec PySem.Calls PyProof.Rows PySem.W
structure TopOk (C:Ctx):Prop where
 nolimit:C.base.NoLimit
 statics:cStatics∉C.tabs
inductive CodeOk (C:Ctx) (cd:Value) (q:Str):Prop
 |mk (c:Addr) (o:Obj) (vs:Array Value) (t:Tok) (e1:cd= .ref c) (e2:C.base.get? c=some o) (e3:c∉C.tabs) (e4:o.data= .fields vs) (e5:vs[1]? =some (.str q t)):CodeOk C cd q
section
variable {C:Ctx} {env:Env} {σ σ₁ σ':St} {s s₁ s':Shared} {A:Around} {k:Nat} {sc:Scope}
theorem TopOk.limit (T:TopOk C) (R:RelG C σ s):s.heap.NoLimit:=T.nolimit.imp fun mc z=>z.imp_left fun z=>z.imp fun o z=>z.imp fun es z=>z.imp fun ep z=>z.imp_left fun e=>R.base.keep _ _ e T.statics
theorem CodeOk.out {cd:Value} {q:Str} (x:CodeOk C cd q) (R:RelG C σ s):s.heap.CodeRec cd q:=x.casesOn fun c o vs t e1 e2 e3 e4 e5=>⟨c,o,vs,t,e1,R.base.keep _ _ e2 e3,e4,e5⟩
theorem bindL_not {K:Str→Option NameKind} {p:Str} {binds:List (Str×Value)} {m:Str→Option Value} (h:p∉binds.map (·.1)):bindL K binds m p=m p:=by
 induction binds generalizing m with
 |nil=>rfl
 |cons a r ih=>
  refine (ih fun z=>h (List.mem_cons_of_mem _ z)).trans ?_
  by_cases c:K a.1=some .local
  ·rw[if_pos c];exact if_neg fun z:p=a.1=>h (by rw[z];exact List.mem_cons_self)
  ·rw[if_neg c]
theorem bindC_not {K:Str→Option NameKind} {p:Str} {binds:List (Str×Value)} {m:Str→Option Value} (h:p∉binds.map (·.1)):bindC K binds m p=m p:=by
 induction binds generalizing m with
 |nil=>rfl
 |cons a r ih=>
  refine (ih fun z=>h (List.mem_cons_of_mem _ z)).trans ?_
  by_cases c:K a.1=some .local
  ·rw[if_pos c]
  ·rw[if_neg c];exact if_neg fun z:p=a.1=>h (by rw[z];exact List.mem_cons_self)
theorem bindL_mem {K:Str→Option NameKind} {p:Str} {v:Value} (hk:K p=some .local) {binds:List (Str×Value)} {m:Str→Option Value} (nd:(binds.map (·.1)).Nodup) (h:(p,v)∈binds):bindL K binds m p=some v:=by
 induction binds generalizing m with
 |nil=>cases h
 |cons a r ih=>
  have nd:=List.nodup_cons.mp nd
  refine (List.mem_cons.mp h).elim (fun e=>?_) fun h=>ih nd.2 h
  subst e
  refine (bindL_not nd.1).trans ?_
  rw[if_pos hk];exact if_pos rfl
theorem bindC_mem {K:Str→Option NameKind} {p:Str} {v:Value} (hk:K p≠some .local) {binds:List (Str×Value)} {m:Str→Option Value} (nd:(binds.map (·.1)).Nodup) (h:(p,v)∈binds):bindC K binds m p=some v:=by
 induction binds generalizing m with
 |nil=>cases h
 |cons a r ih=>
  have nd:=List.nodup_cons.mp nd
  refine (List.mem_cons.mp h).elim (fun e=>?_) fun h=>ih nd.2 h
  subst e
  refine (bindC_not nd.1).trans ?_
  rw[if_neg hk];exact if_pos rfl
theorem lookup_here {α:Type} {x:Str} {a:α} {l:List (Str×α)}:((x,a)::l).lookup x=some a:=by rw[List.lookup_cons,beq_self_eq_true]
theorem cellsFrom_keep {x:Str} {names:List (Str×NameKind)} {n:Nat} {acc:List (Str×Addr)} (h:(acc.lookup x).isSome=true):((cellsFrom n names acc).lookup x).isSome=true:=by
 induction names generalizing n acc with
 |nil=>exact h
 |cons a r ih=>
  unfold cellsFrom
  by_cases c:(a.2==NameKind.cell)=true
  ·rw[if_pos c]
   refine ih ?_
   rw[List.lookup_cons]
   cases x==a.1 with
   |true=>rfl
   |false=>exact h
  ·rw[if_neg c];exact ih h
theorem cellsFrom_has {x:Str} {names:List (Str×NameKind)} {n:Nat} {acc:List (Str×Addr)} (h:(x,NameKind.cell)∈names):((cellsFrom n names acc).lookup x).isSome=true:=by
 induction names generalizing n acc with
 |nil=>cases h
 |cons a r ih=>
  unfold cellsFrom
  by_cases c:(a.2==NameKind.cell)=true
  ·rw[if_pos c]
   exact (List.mem_cons.mp h).elim (fun e=>cellsFrom_keep (by rw[←e,lookup_here];rfl)) fun h=>ih h
  ·rw[if_neg c];exact (List.mem_cons.mp h).elim (fun e=>(c (by rw[←e];rfl)).elim) fun h=>ih h
theorem start_rel (K:CtxOk C) (R:RelG C σ s) {ds:List V} {vs:List Value} (r:RelVs C s.heap ds vs) {L:Addr} {m cm:Str→Option Value}
  (hL:s.heap.objs.size≤L) (hs:env.locals=L) (hkind:env.scope.kind= .function) (hg:env.globals=mainGlobals) (hb:env.builtins=builtinsNs) (nd:(env.scope.names.map (·.1)).Nodup)
  (H:InCallC s L m env.cells cm s₁)
  (hown: ∀x,env.scope.names.lookup x=some .cell→ ∃c,env.cells.lookup x=some c)
  (hv: ∀(i:Nat) v,vs[i]? =some v→ ∃(p:Str) (kd:NameKind),env.scope.names[i]? =some (p,kd)∧(kd= .local→m p=some v)∧(kd≠ .local→cm p=some v∧(env.cells.lookup p).isSome=true)):
  EnvOk C env∧Rel C env ⟨fun i=>ds[i]?,σ.lists,fun _=>none⟩ s₁:=by
 have fresh: ∀a,s.heap.objs.size≤a→C.base.get? a=none:=fun a ha=>R.base.notHere K (by unfold Heap.get?;rw[Array.getElem?_eq_none ha])
 have g:Grow s.heap s₁.heap:=H.toInCall.keep
 refine H.toInCall.same.elim fun h₁ e=>e.elim fun tk hsame=>?_
 subst hs
 refine ⟨⟨hkind,hg,hb,nd,fresh _ hL,H.apart,fun x c hc=>fresh c (Nat.le_of_lt (Nat.lt_of_le_of_lt hL (H.above x c hc))),hown⟩,
  ⟨fun b o e n=>g b o (R.base.keep b o e n),K.kept _ _ R.base.tab fun b o e _=>g b o e,by rw[hsame];exact R.base.os⟩,by rw[hsame];exact R.bare,⟨m,H.toInCall.ns,fun i d e=>?_⟩,fun a xs e=>(R.lists a xs e).grow g,fun x c e=>⟨_,H.cell x c e⟩,fun a o e=>nomatch e⟩
 exact (r.get e).elim fun v e=>(hv i v e.1).elim fun p z=>z.elim fun kd z=>⟨p,kd,z.1,v,g.rel e.2,z.2.1,fun n=>
  have q:=z.2.2 n
  (Option.isSome_iff_exists.mp q.2).imp fun c hc=>⟨hc,q.1▸H.cell p c hc⟩⟩
noncomputable def retV:Fl→V
 | .ret v=>v
 |_=> .none
noncomputable def fnCon (n:Nat) (P:PT Fl):Con:=fun ds Q σ=>ds.length=n∧P (fun f σ'=>Q (retV f) ⟨σ.vars,σ'.lists,σ.ro⟩) ⟨fun i=>ds[i]?,σ.lists,fun _=>none⟩
theorem zip_mem {ps:List Str} {vs:List Value} {i:Nat} {p:Str} {v:Value} (hp:ps[i]? =some p) (hv:vs[i]? =some v):(p,v)∈ps.zip vs:=by
 have:(ps.zip vs)[i]? =some (p,v):=by rw[List.getElem?_zip_eq_some];exact ⟨hp,hv⟩
 exact List.mem_of_getElem? this
theorem fn_soundX (K:CtxOk C) (T0:TopOk C) {f:Addr} {o:Obj} {name:Str} {params:Arguments} {body:List Stmt} {scope:Scope} {pm cd doc:Value} {n:Nat} {P:PT Fl}
  (hob:C.base.get? f=some o) (hnt:f∉C.tabs) (hdat:o.data= .func (docDef name params body scope pm cd doc)) (hcd:CodeOk C cd name)
  (hbind: ∀vs:List Value,vs.length=n→bindArgs (docDef name params body scope pm cd doc) ⟨vs,[]⟩=pure ((params.args.map (·.arg)).zip vs))
  (hp: ∀i,i<n→ ∃p kd,(params.args.map (·.arg))[i]? =some p∧scope.names[i]? =some (p,kd)∧scope.names.lookup p=some kd∧(kd= .local∨kd= .cell))
  (hpn:(params.args.map (·.arg)).length=n) (nd:(scope.names.map (·.1)).Nodup) (ndp:(params.args.map (·.arg)).Nodup) (hk:scope.kind= .function) (hco:scope.isCoroutine=false) (hgen:scope.isGenerator=false)
  (hP: ∀(env:Env) (A:Around) (σ:St) (s:Shared) (Q:Fl→St→Prop),env.scope=scope→env.code=cd→env.qual=name++(Str.ofString ".<locals>.")→EnvOk C env→Lim k A→Rel C env σ s→P Q σ→wpAny (model C.prog C.w) A (execs body env) (PostS C env σ s Q) (fun _ _=>False) s):FnSound C (k+1) f (fnCon n P):=by
 intro A σ s Q ds vs hL R r q
 have hvs:vs.length=n:=r.len.symm.trans q.1
 refine wpAny_call (codeAny_call_function (Nat.lt_of_le_of_lt (Nat.le_trans (Nat.le_add_right _ _) hL.depth) (by decide)) (R.base.keep _ _ hob hnt) hdat hco hgen rfl (hcd.out R) ?_)
 rw[hbind vs hvs]
 have znd:(((params.args.map (·.arg)).zip vs).map (·.1)).Nodup:=by
  rw[List.map_fst_zip (by rw[hpn,hvs];exact Nat.le_refl _)];exact ndp
 refine wpAny_pure (wpAny_newFunctionEnv_cells hk (fun x hx=>?_) fun env he s₁ H=>?_)
 ·refine (List.getElem?_of_mem hx).elim fun i hi=>?_
  have h1:=List.getElem?_zip_eq_some.mp hi
  refine (hp i (hpn▸(List.getElem?_eq_some_iff.mp h1.1).1)).elim fun p z=>z.elim fun kd z=>?_
  cases Option.some.inj (h1.1.symm.trans z.1)
  exact z.2.2.2.elim (fun e=> .inl (e▸z.2.2.1)) fun e=> .inr ⟨e▸z.2.2.1,cellsFrom_has (PySem.mem_of_lookup (e▸z.2.2.1))⟩
 ·have hsc:env.scope=scope:=by rw[he];rfl
  have hloc:env.locals=s.heap.objs.size:=by rw[he];rfl
  have has: ∀{x:Str},env.scope.names.lookup x=some .cell→(env.cells.lookup x).isSome=true:=fun hx=>by rw[he];exact cellsFrom_has (PySem.mem_of_lookup (hsc▸hx))
  have ER:=start_rel (env:=env) (s₁:=s₁) K R r (Nat.le_refl _) hloc (by rw[hsc];exact hk) (by rw[he];rfl) (by rw[he];rfl) (by rw[hsc];exact nd) (by rw[←hloc];exact H) (fun x hx=>Option.isSome_iff_exists.mp (has hx)) (fun i v hv=>
   (hp i (hvs▸(List.getElem?_eq_some_iff.mp hv).1)).imp fun p z=>z.imp fun kd z=>by
    have hz:=zip_mem z.1 hv
    have hkd:env.kindOf p=some kd:=by unfold Env.kindOf;rw[hsc];exact z.2.2.1
    exact ⟨hsc▸z.2.1,fun q=>bindL_mem (hkd.trans (congrArg some q)) znd hz,fun q=>⟨bindC_mem (fun w=>q (Option.some.inj (hkd.symm.trans w))) znd hz,has (hkd.trans (congrArg some (z.2.2.2.resolve_left q)))⟩⟩)
  have R1:=ER.2
  refine ⟨TopOk.limit T0 R1.g,codeAny_func (wpS (hP env (A.deeper env) _ s₁ _ hsc (by rw[he];rfl) (by rw[he];rfl) ER.1 ⟨hL.handled,by have:=hL.depth;show A.depth+1+k≤900;lia,by have:=hL.units;show A.units+3+12*k≤9000;lia⟩ R1 q.2) fun fl s' g σ' rf R' S q=>?_)⟩
  have gr:Grow s.heap s₁.heap:=H.toInCall.keep
  have lt: ∀{b:Addr} {o:Obj},s.heap.get? b=some o→ ¬s.heap.objs.size≤b:=fun e=>Nat.not_le.mpr (Heap.lt_size e)
  have S':Step (XE C σ) σ ⟨σ.vars,σ'.lists,σ.ro⟩ s s':=⟨fun b o e nx=>S.kept b o (gr b o e) fun x=>by
    rcases x with x|x|⟨y,x,_⟩
    ·exact nx x
    ·exact lt e (Nat.le_of_eq (hloc.symm.trans x.symm))
    ·exact lt e (Nat.le_of_lt (hloc▸H.above y b (PySem.mem_of_lookup x))),
   fun b o e=>S.there b o (gr b o e),fun a o e l=>S.dom a o (gr a o e) l,S.mono,fun a o e=> .inl rfl⟩
  have fin: ∀{v:Value},RelV C s'.heap (retV g) v→PostG C σ s Q v s':=fun r=>⟨_,⟨σ.vars,σ'.lists,σ.ro⟩,r,⟨R'.base,R'.bare,R'.lists⟩,S',rfl,rfl,q⟩
  cases g with
  |next=>cases (show fl= .next from rf);exact fin of_none
  |brk=>cases (show fl= .brk from rf);exact fin of_none
  |cont=>cases (show fl= .cont from rf);exact fin of_none
  |ret x=>exact rf.elim fun v r=>r.1▸fin r.2
theorem fn_sound (K:CtxOk C) (T0:TopOk C) {f:Addr} {o:Obj} {name:Str} {params:Arguments} {body:List Stmt} {scope:Scope} {pm cd doc:Value} {n:Nat} {P:PT Fl}
  (hob:C.base.get? f=some o) (hnt:f∉C.tabs) (hdat:o.data= .func (docDef name params body scope pm cd doc)) (hcd:CodeOk C cd name)
  (hbind: ∀vs:List Value,vs.length=n→bindArgs (docDef name params body scope pm cd doc) ⟨vs,[]⟩=pure ((params.args.map (·.arg)).zip vs))
  (hp: ∀i,i<n→ ∃p kd,(params.args.map (·.arg))[i]? =some p∧scope.names[i]? =some (p,kd)∧scope.names.lookup p=some kd∧(kd= .local∨kd= .cell))
  (hpn:(params.args.map (·.arg)).length=n) (nd:(scope.names.map (·.1)).Nodup) (ndp:(params.args.map (·.arg)).Nodup) (hk:scope.kind= .function) (hco:scope.isCoroutine=false) (hgen:scope.isGenerator=false)
  (hP:SoundS C k scope P body):FnSound C (k+1) f (fnCon n P):=
 fn_soundX K T0 hob hnt hdat hcd hbind hp hpn nd ndp hk hco hgen fun env A σ s Q hs _ _ hE hL hR q=>hP.go env A σ s Q hs hE hL hR q
end
end
section
open PySem PySem.Spec PySem.Calls PyProof.Rows PySem.W
section
variable {C:Ctx} {env:Env} {σ σ₁ σ':St} {s s₁ s':Shared} {A:Around} {k:Nat} {sc:Scope}
theorem PostE.grow (K:CtxOk C) (hR:Rel C env σ s) {Q:V→St→Prop} {h':Heap} {tk:Nat} {x:V} {v:Value} (g:Grow s.heap h') (r:RelV C h' x v) (q:Q x σ):PostE C env σ s Q v {s with heap:=h',toks:=tk}:=
 ⟨x,σ,r,hR.grow K g,Step.grow g,rfl,q⟩
@[elab_as_elim] theorem RelVs.e1 {h:Heap} {x:V} {vs:List Value} {P:List Value→Prop} (r:RelVs C h [x] vs) (f: ∀v,RelV C h x v→P [v]):P vs:=r.eC fun v w a b=>b.eZ (f v a)
@[elab_as_elim] theorem RelVs.e2 {h:Heap} {x y:V} {vs:List Value} {P:List Value→Prop} (r:RelVs C h [x,y] vs) (f: ∀v w,RelV C h x v→RelV C h y w→P [v,w]):P vs:=r.eC fun v w a b=>b.e1 fun u c=>f v u a c
inductive Bi where
 |len|ord|chr|divmod|min
noncomputable def Bi.id:Bi→String
 | .len=>"len" | .ord=>"ord" | .chr=>"chr" | .divmod=>"divmod" | .min=>"min"
inductive BiR (Q:V→St→Prop) (σ:St):Bi→List V→Prop
 |lenS {x:Str} (h:x.length≤sizeLine) (q:Q (.int x.length) σ):BiR Q σ .len [.str x]
 |lenL {a:Addr} {xs:List V} (h:σ.lists a=some xs) (hz:xs.length≤sizeLine) (q:Q (.int xs.length) σ):BiR Q σ .len [.lst a]
 |ord {x:Str} (h:x.length=1) (q:Q (.int (x.cps.getD 0 0:Nat)) σ):BiR Q σ .ord [.str x]
 |chr {i:Int} (h:0≤i) (h':i≤1114111) (q:Q (.str ⟨#[i.toNat]⟩) σ):BiR Q σ .chr [.int i]
 |divmod {a b:Int} (h:b≠0) (h':Builtin.divisionGoesByPylong a b=false) (q:Q (.tup [.int (a.fdiv b),.int (a.fmod b)]) σ):BiR Q σ .divmod [.int a,.int b]
 |min {a b:Int} (q:Q (.int (if b<a then b else a)) σ):BiR Q σ .min [.int a,.int b]
noncomputable def biPT (b:Bi) (xs:List V):PT V:=fun Q σ=>BiR Q σ b xs
theorem len_ok {xs:List V} {items:Array Value} (l:xs.length≤sizeLine) (e:xs.length=items.size):(items.size:Int)<2^63:=lt63 (e▸l)
theorem bi_sound (K:CtxOk C) {b:Bi} {xs:List V} {vs:List Value} {Q:V→St→Prop} (hL:Lim k A) (hR:Rel C env σ s) (r:RelVs C s.heap xs vs) (q:biPT b xs Q σ):
  wpAny (model C.prog C.w) A (call (.builtin b.id) vs) (PostE C env σ s Q) NoE s:=by
 replace q:BiR Q σ b xs:=q
 induction q with
 |lenS h q=>exact r.e1 fun v r=>r.eS fun _=>PyProof.Rows.len_str (Int.not_le.mpr (lt63 h)) (.tok hR of_int q)
 |lenL h hz q=>exact r.e1 fun v r=>r.eL (hR.at h fun items n l1 l2 e=>call_len_list ⟨_,l1,rfl,_,rfl⟩ (len_ok hz e) (.tok hR of_int (e▸q)))
 |ord h q=>exact r.e1 fun v r=>r.eS fun _=>ord_of_one h (.tok hR of_int q)
 |chr h h' q=>exact r.e1 fun v r=>r.eI fun _=>chr_of_range h h' (.tok hR of_str q)
 | @divmod a b h h' q=>exact r.e2 fun v w r1 r2=>r1.eII r2 fun t u=>divmod_int h (PostE.grow K hR (x:= .tup [.int (a.fdiv b),.int (a.fmod b)]) (tk:=s.toks+1+1) (Grow.push {cls:= .type "tuple",data:= .seq #[.int (a.fdiv b) s.toks,.int (a.fmod b) (s.toks+1)]})
   ⟨_,_,rfl,⟨_,Heap.get?_push_size _ rfl,rfl,0,rfl⟩,RelVs.cons of_int (RelVs.cons of_int RelVs.nil)⟩ q) (.inl h')
 | @min a b q=>
  refine r.e2 fun v w r1 r2=>r1.eII r2 fun t u=>min_two_ints hL.handled fun h' tk hk=>?_
  by_cases c:b<a
  ·rw[if_pos c] at q⊢;exact PostE.grow K hR hk of_int q
  ·rw[if_neg c] at q⊢;exact PostE.grow K hR hk of_int q
theorem s_glob_builtin {x:Str} {pos:Pos} {v:Value} {mg mb:Str→Option Value} (hg: ∀h:Heap,(∀b o,C.base.get? b=some o→b∉C.tabs→h.get? b=some o)→h.Ns mainGlobals mg∧h.Ns builtinsNs mb) (hmiss:mg x=none) (hv:mb x=some v)
  (hl:env.kindOf x=some .globalImplicit) (hE:EnvOk C env) (hR:Rel C env σ s) {Q:Value→Shared→Prop} (h:Q v s) (hd:(x==("__debug__" :Str))=false):wpAny (model C.prog C.w) A (eval (.Name x pos) env) Q NoE s:=
 Name_function_global hE.kind hl (loadGlobal_builtin (by rw[hE.globals];exact (hg _ hR.keep).1) hmiss (by rw[hE.builtins];exact (hg _ hR.keep).2) hv h) hd
noncomputable abbrev Globs (C:Ctx) (mg mb:Str→Option Value):Prop:= ∀h:Heap,(∀b o,C.base.get? b=some o→b∉C.tabs→h.get? b=some o)→h.Ns mainGlobals mg∧h.Ns builtinsNs mb
noncomputable def ptBi (b:Bi) (Ps:List (PT V)):PT V:=fun Q σ=>ptArgs Ps (fun xs σ₁=>biPT b xs Q σ₁) σ
theorem evalArgs_any {f:Value} {e:Expr} {es:List Expr} {pos:Pos} {Q:Args→Shared→Prop} {M:Model} {E:Value→Shared→Prop}
  (he:starEach (e::es) env=(false,eval e env)::starEach es env)
  (h:wpAny M A (spliced (backTo pos (starEach (e::es) env))) (fun vs s'=>Q ⟨vs,[]⟩ s') E s):wpAny M A (evalArgs f true (backTo pos (starEach (e::es) env)) []) Q E s:=by
 rw[he] at h⊢
 exact evalArgs_plain h
theorem noStar {Ps:List (PT V)} {es:List Expr} (h:SoundEs C k sc Ps es) (pos:Pos) (env:Env):(backTo pos (starEach es env)).any (·.1)=false:=
 h.ind (G:=fun _ es=>(backTo pos (starEach es env)).any (·.1)=false) rfl fun P Ps e es _ he ih=>by rw[he es env];exact ih
theorem s_bi (K:CtxOk C) {b:Bi} {x:Str} {np pos:Pos} {P:PT V} {Ps:List (PT V)} {e:Expr} {es:List Expr} {mg mb:Str→Option Value}
  (hg:Globs C mg mb) (hmiss:mg x=none) (hv:mb x=some (.builtin b.id)) (hl:sc.names.lookup x=some .globalImplicit) (hd:(x==("__debug__" :Str))=false)
  (ha:SoundEs C k sc (P::Ps) (e::es)):SoundE C k sc (ptBi b (P::Ps)) (.Call (.Name x np) (e::es) [] pos):= .mk fun env A σ s Q hs hE hL hR q=>
 wpAny_Call_NameR (s_glob_builtin hg hmiss hv (by unfold Env.kindOf;rw[hs];exact hl) hE hR (callWith_builtin (noStar ha pos env) (evalArgs_any (ha.hd env)
  (wpL (args_sound K ha hs hE hL hR q) fun vs s₁ xs σ₁ r1 R1 S1 v1 q=>backE S1 v1 (bi_sound K hL R1 r1 q)))) hd)
theorem seqIndex_nn {i:Int} {n:Nat} (h:0≤i) (l:i.toNat<n):seqIndex? i n=some i.toNat:=by
 rw[seqIndex?,if_neg (Int.not_lt.mpr h),decide_eq_true h,decide_eq_true ((Int.toNat_lt h).mp l)];rfl
theorem seqIndex_ng {i:Int} {n:Nat} (h:i<0) (l:0≤i+n):seqIndex? i n=some (i+n).toNat:=by
 rw[seqIndex?,if_pos h,decide_eq_true l,decide_eq_true (show i+n<n by lia)];rfl
inductive Mth where
 |upper|lower|bitlen|join|append|pop|reverse
noncomputable def Mth.name:Mth→Str
 | .upper=>"upper" | .lower=>"lower" | .bitlen=>"bit_length" | .join=>"join" | .append=>"append" | .pop=>"pop" | .reverse=>"reverse"
inductive MR (Q:V→St→Prop) (σ:St):Mth→V→List V→Prop
 |upper {x:Str} (h:x.length≤5592405) (q:Q (.str (Txt.upper x)) σ):MR Q σ .upper (.str x) []
 |lower {x:Str} (h:x.length≤5592405) (q:Q (.str (Txt.lower x)) σ):MR Q σ .lower (.str x) []
 |bits {a:Int} (q:Q (.int (Builtin.Int.intBits a)) σ):MR Q σ .bitlen (.int a) []
 |join {x:Str} {a:Addr} {ys:List Str} (h:σ.lists a=some (ys.map V.str)) (hz:(ys.map (·.length)).sum+ys.length*x.length≤16777216) (q:Q (.str (Txt.join x ys)) σ):MR Q σ .join (.str x) [.lst a]
 |append {a:Addr} {xs:List V} {y:V} (h:σ.lists a=some xs) (hz:xs.length+1≤sizeLine) (q:Q .none (setL σ a (xs++[y]))):MR Q σ .append (.lst a) [y]
 |pop {a:Addr} {xs:List V} {i:Int} {y:V} (h:σ.lists a=some xs) (hz:xs.length≤sizeLine) (h0:0≤i) (hy:xs[i.toNat]? =some y) (q:Q y (setL σ a (xs.eraseIdx i.toNat))):MR Q σ .pop (.lst a) [.int i]
 |reverse {a:Addr} {xs:List V} (h:σ.lists a=some xs) (hz:xs.length≤sizeLine) (q:Q .none (setL σ a xs.reverse)):MR Q σ .reverse (.lst a) []
noncomputable def mPT (m:Mth) (x:V) (xs:List V):PT V:=fun Q σ=>MR Q σ m x xs
theorem strsAre {h:Heap} {ys:List Str} {vs:List Value} (r:RelVs C h (ys.map V.str) vs):StrsAre vs ys:=by
 induction ys generalizing vs with
 |nil=>exact RelVs.eZ r .nil
 |cons y ys ih=>exact RelVs.eC r fun v w a b=>a.eS fun t=> .cons y t (ih b)
theorem listUpd {h:Heap} {a:Addr} {items:Array Value} {n:Nat} (l:h.get? a=some {cls:= .type "list",dict:=none,data:= .seq items n,slots:= #[]}) (f:Array Value→Array Value):
  (h.update a (Obj.mapSeq f)).PlainList a (f items)∧GrowBut a h (h.update a (Obj.mapSeq f)):=
 ⟨⟨_,IsL.update l f⟩,fun c o nc e=>(Heap.get?_update_other h _ (Ne.symm nc)).trans e⟩
theorem PostE.upd (K:CtxOk C) (hE:EnvOk C env) (hR:Rel C env σ s) {Q:V→St→Prop} {a:Addr} {xs ys:List V} {items:Array Value} {n tk:Nat} (f:Array Value→Array Value) {x:V} {v:Value}
  (e:σ.lists a=some xs) (l:s.heap.get? a=some {cls:= .type "list",dict:=none,data:= .seq items n,slots:= #[]}) (r:RelVs C s.heap ys (f items).toList) (rx:RelV C s.heap x v) (q:Q x (setL σ a ys)):
  PostE C env σ s Q v {s with heap:=s.heap.update a (Obj.mapSeq f),toks:=tk}:=
 have p:=listUpd l f
 have R:=hR.setL K hE (tk:=tk) e p.1 r p.2
 ⟨x,_,R.2.relE K hR rx,R.1,R.2,rfl,q⟩
noncomputable def Mth.T:Mth→String
 | .upper| .lower| .join=>"str"
 | .bitlen=>"int"
 | .append| .pop| .reverse=>"list"
noncomputable def Mth.id:Mth→String
 | .upper=>"str.upper" | .lower=>"str.lower" | .bitlen=>"int.bit_length" | .join=>"str.join" | .append=>"list.append" | .pop=>"list.pop" | .reverse=>"list.reverse"
noncomputable def fitS:V→Prop
 | .str _=>True
 |_=>False
noncomputable def fitI:V→Prop
 | .int _=>True
 |_=>False
noncomputable def fitL (σ:St):V→Prop
 | .lst a=>(σ.lists a).isSome=true
 |_=>False
noncomputable def mFit (m:Mth) (x:V) (σ:St):Prop:=
 match m with
 | .upper| .lower| .join=>fitS x
 | .bitlen=>fitI x
 | .append| .pop| .reverse=>fitL σ x
inductive KindOk (m:Mth) (v:Value) (s:Shared):Prop
 |mk (k1:PlainAttrs m.T) (k2:Slot m.T m.name m.id) (k3:typeOf (.builtin m.id)=pure (.type "method_descriptor")) (k4:s.TypeIs v m.T) (k5: ∀a,v= .ref a→ ∃ob,s.heap.get? a=some ob∧ob.dict=none):KindOk m v s
theorem fit_s {m:Mth} {x:V} {v:Value} (rx:RelV C s.heap x v) (q:fitS x) (k1:PlainAttrs m.T) (k2:Slot m.T m.name m.id) (k3:typeOf (.builtin m.id)=pure (.type "method_descriptor")) (e:m.T="str"):KindOk m v s:=by
 cases x with
 |str x=>exact rx.eS fun t=>⟨k1,k2,k3,e▸typeIs_str _ _ _,fun _ z=>nomatch z⟩
 |_=>exact q.elim
theorem fit_l {m:Mth} {x:V} {v:Value} (hR:Rel C env σ s) (rx:RelV C s.heap x v) (q:fitL σ x) (k1:PlainAttrs m.T) (k2:Slot m.T m.name m.id) (k3:typeOf (.builtin m.id)=pure (.type "method_descriptor")) (e:m.T="list"):KindOk m v s:=by
 cases x with
 |lst x=>exact rx.eL ((Option.isSome_iff_exists.mp q).elim fun xs h=>hR.at h fun items n l1 _ _=>⟨k1,k2,k3,e▸Heap.IsList.typeIs ⟨_,l1,rfl,_,rfl⟩,fun b h=>Value.ref.inj h▸⟨_,l1,rfl⟩⟩)
 |_=>exact q.elim
theorem m_kind {m:Mth} {x:V} {v:Value} (hR:Rel C env σ s) (rx:RelV C s.heap x v) (q:mFit m x σ):KindOk m v s:=by
 cases m with
 |upper=>exact fit_s rx q F.plainAttrs_str F.slot_str_upper F.type_str_upper rfl
 |lower=>exact fit_s rx q F.plainAttrs_str F.slot_str_lower F.type_str_lower rfl
 |join=>exact fit_s rx q F.plainAttrs_str F.slot_str_join F.type_str_join rfl
 |bitlen=>
  cases x with
  |int x=>exact rx.eI fun t=>⟨F.plainAttrs_int,F.slot_int_bit_length,F.type_int_bit_length,typeIs_int _ _ _,fun a e=>nomatch e⟩
  |_=>exact q.elim
 |append=>exact fit_l hR rx q F.plainAttrs_list F.slot_list_append F.type_list_append rfl
 |pop=>exact fit_l hR rx q F.plainAttrs_list F.slot_list_pop F.type_list_pop rfl
 |reverse=>exact fit_l hR rx q F.plainAttrs_list F.slot_list_reverse F.type_list_reverse rfl
theorem m_sound (K:CtxOk C) {m:Mth} {x:V} {v:Value} {xs:List V} {vs:List Value} {Q:V→St→Prop} (hE:EnvOk C env) (hR:Rel C env σ s) (rx:RelV C s.heap x v) (r:RelVs C s.heap xs vs) (q:mPT m x xs Q σ):
  wpAny (model C.prog C.w) A (call (.builtin m.id) (v::vs)) (PostE C env σ s Q) NoE s:=by
 replace q:MR Q σ m x xs:=q
 induction q with
 |upper h q=>exact rx.eS fun _=>r.eZ (SCL.upper h fun _=> .tok hR of_str q)
 |lower h q=>exact rx.eS fun _=>r.eZ (SCL.lower h fun _=> .tok hR of_str q)
 |bits q=>exact rx.eI fun _=>r.eZ (call_int_bit_length (.tok hR of_int q))
 |join h hz q=>exact rx.eS fun _=>r.e1 fun w r1=>r1.eL (hR.at h fun items n l1 l2 _=>join_list ⟨_,l1,rfl,_,rfl⟩ (strsAre l2) hz fun _ _=> .tok hR of_str q)
 |append h hz q=>exact rx.eL (r.e1 fun w r1=>hR.at h fun items n l1 l2 e=>call_meets F.slot_list_append (Heap.IsList.typeIs ⟨_,l1,rfl,_,rfl⟩) F.entry_list_append (F.args_list_append_2 _ _)
   (list_append _ items n w (by rw[←e];exact Nat.le_of_succ_le hz)) ⟨l1,PostE.upd K hE hR (fun x=>x.push w) h l1 (by rw[Array.toList_push];exact l2.append (RelVs.cons r1 RelVs.nil)) of_none q⟩)
 | @pop a xs i y h hz h0 hy q=>
  refine rx.eL (r.e1 fun w r1=>r1.eI fun u=>hR.at h fun items n l1 l2 e=>(l2.get hy).elim fun vy g=>?_)
  have hlt:i.toNat<items.size:=e▸(List.getElem?_eq_some_iff.mp hy).1
  have hz':items.size≤sizeLine:=e▸hz
  refine call_meets F.slot_list_pop (Heap.IsList.typeIs ⟨_,l1,rfl,_,rfl⟩) F.entry_list_pop (F.args_list_pop_2 _ _)
    (MeetsSeq.list_pop_at _ items n i u i.toNat vy ?_ (seqIndex_nn h0 hlt) (by rw[←Array.getElem?_toList];exact g.1) ?_) ⟨l1,PostE.upd K hE hR (tk:=s.toks) (fun xs=>xs.eraseIdxIfInBounds i.toNat) h l1 ?_ g.2 q⟩
  ·unfold Builtin.List.listFitsIndex
   have hz:sizeLine=16777216:=rfl
   simp only[Bool.and_eq_true,decide_eq_true_eq]
   lia
  ·have hz:sizeLine=16777216:=rfl
   lia
  ·have:(items.eraseIdxIfInBounds i.toNat).toList=items.toList.eraseIdx i.toNat:=by simp
   rw[this]
   exact l2.erase
 |reverse h hz q=>exact rx.eL (r.eZ (hR.at h fun items n l1 l2 e=>call_meets F.slot_list_reverse (Heap.IsList.typeIs ⟨_,l1,rfl,_,rfl⟩) F.entry_list_reverse (F.args_list_reverse_1 _)
   (AutoSeq1.list_reverse_list_0 _ items n (by rw[←e];exact hz)) ⟨l1,PostE.upd K hE hR (fun x=>x.reverse) h l1 (by rw[Array.toList_reverse];exact l2.reverse) of_none q⟩))
noncomputable def ptMeth (m:Mth) (P:PT V) (Ps:List (PT V)):PT V:=fun Q σ=>P (fun x σ₁=>mFit m x σ₁∧ptArgs Ps (fun xs σ₂=>mPT m x xs Q σ₂) σ₁) σ
theorem s_meth0 (K:CtxOk C) (m:Mth) {P:PT V} {o:Expr} {n:Str} {apos pos:Pos} (ho:SoundE C k sc P o) (hn:n=m.name) (hbase: ∀env,attributeBase o n env (eval o env)=eval o env) (hline:(apos.endLine==pos.line)=true):
  SoundE C k sc (ptMeth m P []) (.Call (.Attribute o n apos) [] [] pos):= .mk fun env A σ s Q hs hE hL hR q=>by
 subst hn
 exact wpAny_Call_method0_late (hbase env) hline (ho.bind hs hE hL hR q fun v s₁ x σ₁ r1 R1 S1 v1 q=>(m_kind R1 r1 q.1).casesOn fun k1 k2 k3 k4 k5=>
  ⟨m.T,m.id,k1,k2,k3,k4,k5,callWith_builtin rfl (PySem.evalArgs_none (backE S1 v1 (m_sound K hE R1 r1 RelVs.nil q.2)))⟩)
theorem s_meth1 (K:CtxOk C) (m:Mth) {P R:PT V} {o e:Expr} {n:Str} {apos pos:Pos} (ho:SoundE C k sc P o) (he:SoundE C k sc R e) (hn:n=m.name) (hbase: ∀env,attributeBase o n env (eval o env)=eval o env) (hline:(apos.endLine==pos.line)=true)
  (htrees: ∀env,backTo pos (starEach [e] env)=[(false,eval e env)]):
  SoundE C k sc (ptMeth m P [R]) (.Call (.Attribute o n apos) [e] [] pos):= .mk fun env A σ s Q hs hE hL hR q=>by
 subst hn
 exact wpAny_Call_method1_late (hbase env) hline (htrees env) (ho.bind hs hE hL hR q fun v s₁ x σ₁ r1 R1 S1 v1 q=>(m_kind R1 r1 q.1).casesOn fun k1 k2 k3 k4 k5=>
  ⟨m.T,m.id,k1,k2,k3,k4,k5,callWith_builtin rfl (evalArgs_plain (spliced_cons (he.bind hs hE hL R1 q.2 fun w s₂ y σ₂ r2 R2 S2 v2 q=>spliced_nil
   (backE S1 v1 (backE S2 v2 (m_sound K hE R2 (S2.relE K R1 r1) (RelVs.cons r2 RelVs.nil) q))))))⟩)
end
end
section
open PySem PySem.Spec PySem.Calls PyProof.Rows PySem.W
structure ScrOk (C:Ctx):Prop where
 there: ∃(items:Array Value) (n:Nat),C.base.get? C.script=some {cls:= .type "list",dict:=none,data:= .seq items n,slots:= #[]}∧C.script∉C.tabs∧RelVs C C.base (C.scr.map V.int) items.toList
section
variable {C:Ctx} {env:Env} {σ σ₁ σ':St} {s s₁ s':Shared} {A:Around} {k:Nat} {sc:Scope}
theorem relInts {h h':Heap} {l:List Int} {vs:List Value} (e:RelVs C h (l.map V.int) vs):RelVs C h' (l.map V.int) vs:=by
 induction l generalizing vs with
 |nil=>exact e
 |cons x xs ih=>exact RelVs.eC e fun v w a b=>a.eI fun t=> .cons of_int (ih b)
theorem ScrOk.at (Z:ScrOk C) (hR:Rel C env σ s) {P:Prop} (f: ∀(items:Array Value) (n:Nat),s.heap.get? C.script=some {cls:= .type "list",dict:=none,data:= .seq items n,slots:= #[]}→RelVs C s.heap (C.scr.map V.int) items.toList→P):P:=
 Z.there.elim fun items z=>z.elim fun n z=>f items n (hR.keep _ _ z.1 z.2.1) (relInts z.2.2)
theorem rel_rl {h:Heap} {l:List Int} {v:Value} (r:RelV C h (.rl l) v):v= .ref C.script∧l=C.scr:=r
@[elab_as_elim] theorem RelV.eT {h:Heap} {l:List V} {v:Value} {P:Value→Prop} (r:RelV C h (.tup l) v) (f: ∀a items,IsTup h a items→RelVs C h l items.toList→P (.ref a)):P v:=
 r.elim fun a z=>z.elim fun items z=>z.1▸f a items z.2.1 z.2.2
theorem seqIndex_lt {i:Int} {n j:Nat} (h:seqIndex? i n=some j):j<n∧((0≤i∧j=i.toNat)∨(i<0∧ -(n:Int)≤i∧j=(i+n).toNat)):=by
 have key: ∀z:Int,(if (decide (0≤z)&&decide (z<(n:Int)))=true then some z.toNat else none)=some j→0≤z∧j<n∧j=z.toNat:=fun z h=>by
  by_cases c:(decide (0≤z)&&decide (z<(n:Int)))=true
  ·cases (if_pos c).symm.trans h
   have c:=Bool.and_eq_true_iff.mp c
   have a:=of_decide_eq_true c.1
   exact ⟨a,(Int.toNat_lt a).mpr (of_decide_eq_true c.2),rfl⟩
  ·exact nomatch (if_neg c).symm.trans h
 rw[seqIndex?] at h
 by_cases d:i<0
 ·rw[if_pos d] at h
  have k:=key _ h
  exact ⟨k.2.1,.inr ⟨d,by have:=k.1;lia,k.2.2⟩⟩
 ·rw[if_neg d] at h
  have k:=key _ h
  exact ⟨k.2.1,.inl ⟨k.1,k.2.2⟩⟩
theorem getList {M:Program} {w:World} {E:Value→Shared→Prop} {a:Addr} {items:Array Value} {i:Int} {t:Tok} {j:Nat} {x:Value} {Q:Value→Shared→Prop} (hl:s.heap.IsList a items) (hj:seqIndex? i items.size=some j)
  (hf: -(2^63)≤i∧i<2^63) (hx:items[j]? =some x) (h:Q x s):wpAny (model M w) A (getItem (.ref a) (.int i t)) Q E s:=
 (seqIndex_lt hj).2.elim (fun e=>wpAny_getItem_list hl e.1 hf.2 (e.2▸hx) h) fun e=>wpAny_getItem_list_neg hl e.1 e.2.1 hf.1 (e.2.2▸hx) h
noncomputable def fitsI (i:Int):Prop:= -(2^63)≤i∧i<2^63
inductive ItR (Q:V→St→Prop) (σ:St):V→V→Prop
 |lst {a:Addr} {i:Int} {xs:List V} {j:Nat} {y:V} (h:σ.lists a=some xs) (hf:fitsI i) (hj:seqIndex? i xs.length=some j) (hy:xs[j]? =some y) (q:Q y σ):ItR Q σ (.lst a) (.int i)
 |str {x:Str} {i:Int} {j c:Nat} (hf:fitsI i) (hj:seqIndex? i x.length=some j) (hy:x.cps[j]? =some c) (q:Q (.str ⟨#[c]⟩) σ):ItR Q σ (.str x) (.int i)
 |tup {l:List V} {i:Int} {j:Nat} {y:V} (hf:fitsI i) (hj:seqIndex? i l.length=some j) (hy:l[j]? =some y) (q:Q y σ):ItR Q σ (.tup l) (.int i)
 |rl {l:List Int} {i y:Int} {j:Nat} (hf:fitsI i) (hj:seqIndex? i l.length=some j) (hy:l[j]? =some y) (q:Q (.int y) σ):ItR Q σ (.rl l) (.int i)
noncomputable def itPT (x i:V):PT V:=fun Q σ=>ItR Q σ x i
theorem fits_or {i:Int} (hf:fitsI i):(decide (i< -(2^63))||decide (2^63≤i))=false:=by rw[decide_eq_false (Int.not_lt.mpr hf.1),decide_eq_false (Int.not_le.mpr hf.2)];rfl
structure ItDone (C:Ctx) (A:Around) (env:Env) (σ:St) (s:Shared) (Q:V→St→Prop) (vx vi:Value):Prop where
 plain:wpAny (model C.prog C.w) A (getItem vx vi) (PostE C env σ s Q) NoE s
 tail: ∀{value slice:Expr},(∀o i,subscripted slice false o i=operate [o,i] (getItem o i))→wpAny (model C.prog C.w) A (subscriptTail value slice vx vi) (PostE C env σ s Q) NoE s
theorem it_done (Z:ScrOk C) {x i:V} {vx vi:Value} {Q:V→St→Prop} (hR:Rel C env σ s) (rx:RelV C s.heap x vx) (ri:RelV C s.heap i vi) (q:itPT x i Q σ):ItDone C A env σ s Q vx vi:=by
 replace q:ItR Q σ x i:=q
 induction q with
 |lst h hf hj hy q=>exact rx.eL (ri.eI fun u=>hR.at h fun items n l1 l2 e=>(l2.get hy).elim fun vy g=>
   have il:s.heap.IsList _ items:=⟨_,l1,rfl,_,rfl⟩
   have w:=getList il (e▸hj) hf (by rw[←Array.getElem?_toList];exact g.1) (PostE.now hR g.2 q)
   ⟨w,fun hs=>tail_any il.typeIs slot_list_getitem.lookup w (hs _ _)⟩)
 |str hf hj hy q=>exact rx.eS fun t=>ri.eI fun u=>
   have w:=PyProof.Rows.getItem_str (fits_or hf) (by rw[hj];exact hy) (PostE.tok hR of_str q)
   ⟨w,fun hs=>tail_any (typeIs_str _ _ _) F.slot_str_getitem.lookup w (hs _ _)⟩
 |tup hf hj hy q=>exact rx.eT fun a items t1 t2=>ri.eI fun u=>(t2.get hy).elim fun vy g=>
   have w:=PyProof.Rows.getItem_tuple t1 hf.1 hf.2 (by rw[←Array.length_toList,←t2.len];exact hj) (by rw[←Array.getElem?_toList];exact g.1) (PostE.now hR g.2 q)
   ⟨w,fun hs=>tail_any t1.typeIs slot_tuple_getitem.lookup w (hs _ _)⟩
 | @rl l i y j hf hj hy q=>
  obtain ⟨rfl,rfl⟩:=rel_rl rx
  exact ri.eI fun u=>Z.at hR fun items n l1 l2=>(l2.get (i:=j) (x:=V.int y) (by rw[List.getElem?_map,hy];rfl)).elim fun vy g=>
   have il:s.heap.IsList C.script items:=⟨_,l1,rfl,_,rfl⟩
   have w:=getList il (by rw[←Array.length_toList,←l2.len,List.length_map];exact hj) hf (by rw[←Array.getElem?_toList];exact g.1) (PostE.now hR g.2 q)
   ⟨w,fun hs=>tail_any il.typeIs slot_list_getitem.lookup w (hs _ _)⟩
noncomputable def ptIt (P R:PT V):PT V:=fun Q σ=>P (fun x σ₁=>R (fun i σ₂=>itPT x i Q σ₂) σ₁) σ
theorem s_it (K:CtxOk C) (Z:ScrOk C) {P R:PT V} {value slice:Expr} {pos:Pos} (hv:SoundE C k sc P value) (hi:SoundE C k sc R slice) (hs: ∀o i,subscripted slice false o i=operate [o,i] (getItem o i)):
  SoundE C k sc (ptIt P R) (.Subscript value slice pos):= .mk fun env A σ s Q hsc hE hL hR q=>
 Subscript_ (hv.bind hsc hE hL hR q fun v s₁ x σ₁ r1 R1 S1 v1 q=>hi.bind hsc hE hL R1 q fun w s₂ i σ₂ r2 R2 S2 v2 q=>
  backE S1 v1 (backE S2 v2 ((it_done Z R2 (S2.relE K R1 r1) r2 q).tail hs)))
noncomputable def cut {α:Type} (l:List α) (lo hi:Option Int):List α:=(l.drop (kms_lo lo l.length)).take (kms_hi hi l.length-kms_lo lo l.length)
noncomputable def strCut (x:Str) (lo hi:Option Int):Str:=⟨(cut x.cps.toList lo hi).toArray⟩
theorem strInd (lo hi:Option Int) (n:Nat):Builtin.Str.strSliceIndices lo hi 1 n=sliceRange (kms_lo lo n:Nat) (kms_hi hi n:Nat) 1:=by
 have:=kms_bounds lo hi n
 have e:Builtin.Str.strSliceIndices lo hi 1 n=sliceRange (sliceBounds lo hi none n).1 (sliceBounds lo hi none n).2.1 1:=rfl
 rw[e,this]
theorem kms_lo_le (lo:Option Int) (n:Nat):kms_lo lo n≤n:=by
 cases lo with
 |none=>exact Nat.zero_le _
 |some x=>
  by_cases c:x<0
  ·rw[kms_lo,if_pos c];exact Nat.sub_le _ _
  ·rw[kms_lo,if_neg c];exact Nat.min_le_right _ _
theorem kms_hi_le (lo:Option Int) (n:Nat):kms_hi lo n≤n:=by
 cases lo with
 |none=>exact Nat.le_refl _
 |some x=>
  by_cases c:x<0
  ·rw[kms_hi,if_pos c];exact Nat.sub_le _ _
  ·rw[kms_hi,if_neg c];exact Nat.min_le_right _ _
theorem nat_ge {a:Nat}: ¬(a:Int)<0:=Int.not_lt.mpr (Int.natCast_nonneg a)
theorem kms_lo_nat {a n:Nat} (h:a≤n):kms_lo (some (a:Int)) n=a:=by
 rw[kms_lo,if_neg nat_ge,Int.toNat_natCast,Nat.min_eq_left h]
theorem kms_hi_nat {a n:Nat} (h:a≤n):kms_hi (some (a:Int)) n=a:=by
 rw[kms_hi,if_neg nat_ge,Int.toNat_natCast,Nat.min_eq_left h]
theorem strPick (x:Str) (lo hi:Option Int):(⟨((Builtin.Str.strSliceIndices lo hi 1 x.length).filterMap (x.cps[·]?)).toArray⟩:Str)=strCut x lo hi:=by
 unfold strCut cut
 congr 2
 have hn:x.cps.toList.length=x.length:=by rw[Array.length_toList];rfl
 rw[hn,strInd]
 by_cases c:kms_lo lo x.length≤kms_hi hi x.length
 ·have e1:=PySem.StrLaws.sliced_plain x c (kms_hi_le hi x.length)
  rw[←e1,strInd,kms_lo_nat (kms_lo_le lo _),kms_hi_nat (kms_hi_le hi _)]
 ·have c:=Nat.le_of_not_le c
  rw[Nat.sub_eq_zero_of_le c,List.take_zero]
  unfold sliceRange
  rw[if_pos (by decide),if_neg (Int.not_lt.mpr (Int.ofNat_le.mpr c))]
  rfl
theorem cut_le {α:Type} (l:List α) (lo hi:Option Int):(cut l lo hi).length≤l.length:=Nat.le_trans (List.length_take_le' _ _) (by rw[List.length_drop];exact Nat.sub_le _ _)
theorem range_len (a b:Nat):(sliceRange (a:Int) (b:Int) 1).length=b-a:=by
 unfold sliceRange
 rw[if_pos (by decide)]
 by_cases c:(a:Int)<b
 ·rw[if_pos c,List.length_map,List.length_range];lia
 ·rw[if_neg c];exact (Nat.sub_eq_zero_of_le (Int.ofNat_le.mp (Int.not_lt.mp c))).symm
theorem strCut_all {x:Str} {lo hi:Option Int} (h:(Builtin.Str.strSliceIndices lo hi 1 x.length).length=x.length):strCut x lo hi=x:=by
 rw[strInd,range_len] at h
 have h2:kms_hi hi x.length=x.length:=Nat.le_antisymm (kms_hi_le hi _) (Nat.le_trans (Nat.le_of_eq h.symm) (Nat.sub_le _ _))
 have h1:kms_lo lo x.length=0:=by
  rw[h2] at h
  have:=kms_lo_le lo x.length
  lia
 have hn:x.cps.toList.length=x.length:=Array.length_toList
 unfold strCut cut
 rw[hn,h1,h2,List.drop_zero,Nat.sub_zero,←hn,List.take_length]
noncomputable def asPart:V→Option (Option Int)
 | .none=>some none
 | .int i=>some (some i)
 |_=>none
theorem asPart_of {h:Heap} {x:V} {v:Value} {p:Option Int} (r:RelV C h x v) (e:asPart x=some p): ∃q:Option (Int×Tok),q.map (·.1)=p∧v=partValue q∧IsPart v p:=by
 cases x with
 |none=>cases e;exact r.eN ⟨none,rfl,rfl,.none⟩
 |int i=>cases e;exact r.eI fun t=>⟨some (i,t),rfl,rfl,.int i t⟩
 |_=>cases e
inductive SlR (Q:V→St→Prop) (σ:St):V→V→V→Prop
 |str {x:Str} {l u:V} {lo hi:Option Int} (e1:asPart l=some lo) (e2:asPart u=some hi) (h:x.length≤sizeLine) (q:Q (.str (strCut x lo hi)) σ):SlR Q σ (.str x) l u
 |lst {a:Addr} {l u:V} {lo hi:Option Int} {xs:List V} (e1:asPart l=some lo) (e2:asPart u=some hi) (h:σ.lists a=some xs) (hz:xs.length≤sizeLine) (q: ∀c,σ.lists c=none→Q (.lst c) (setL σ c (cut xs lo hi))):SlR Q σ (.lst a) l u
noncomputable def slPT (x l u:V):PT V:=fun Q σ=>SlR Q σ x l u
theorem RelVs.cut {h:Heap} {xs:List V} {vs:List Value} {lo hi:Option Int} (r:RelVs C h xs vs):RelVs C h (Mine.cut xs lo hi) (Mine.cut vs lo hi):=by
 unfold Mine.cut
 rw[r.len]
 exact (r.drop).take
theorem sl_sound (K:CtxOk C) {x l u:V} {vx vl vu:Value} {value:Expr} {lower upper:Option Expr} {p:Pos} {Q:V→St→Prop} (hR:Rel C env σ s) (rx:RelV C s.heap x vx) (rl:RelV C s.heap l vl) (ru:RelV C s.heap u vu) (q:slPT x l u Q σ):
  wpAny (model C.prog C.w) A (subscriptTail value (.Slice lower upper none p) vx (.ref s.heap.objs.size)) (PostE C env σ s Q) NoE {s with heap:=s.heap.push {cls:= .type "slice",data:= .fields #[vl,vu,.none]}}:=by
 have g:Grow s.heap (s.heap.push {cls:= .type "slice",data:= .fields #[vl,vu,.none]}):= .push _
 replace q:SlR Q σ x l u:=q
 induction q with
 | @str x l u lo hi e1 e2 h q=>
  refine (asPart_of rl e1).elim fun ql l1=>(asPart_of ru e2).elim fun qu u1=>rx.eS fun t=>?_
  refine tail_any (typeIs_str _ _ _) F.slot_str_getitem.lookup (wpAny_getItem_str_slice (l:=ql) (u:=qu) (st:=none) ⟨_,Heap.get?_push_size _ rfl,rfl,by rw[l1.2.1,u1.2.1];rfl⟩ rfl ?_) rfl
  have fin: ∀tk tok,PostE C env σ s Q (.str (strCut x lo hi) tok) {s with heap:=s.heap.push {cls:= .type "slice",data:= .fields #[vl,vu,.none]},toks:=tk}:=fun tk tok=>PostE.grow K hR g of_str q
  unfold sliceMade
  rw[show slicePicked x ql qu none=Builtin.Str.strSliceIndices lo hi 1 x.length by unfold slicePicked;rw[l1.1,u1.1];rfl]
  split
  ·rename_i c
   have:=fin s.toks t
   rw[strCut_all (eq_of_beq (Bool.and_eq_true_iff.mp c).2)] at this
   exact this
  ·rw[strPick]
   exact ⟨Nat.le_trans (cut_le x.cps.toList lo hi) h,fin _ _⟩
 | @lst a l u lo hi xs e1 e2 h hz q=>
  refine (asPart_of rl e1).elim fun ql l1=>(asPart_of ru e2).elim fun qu u1=>rx.eL (hR.at h fun items n i1 i2 hlen=>?_)
  have i1':=g _ _ i1
  have R1:Rel C env σ {s with heap:=s.heap.push {cls:= .type "slice",data:= .fields #[vl,vu,.none]}}:=hR.grow K (tk:=s.toks) g
  have e:(slicePick items lo hi none).toList=Mine.cut items.toList lo hi:=by rw[kms_pick_eq];rfl
  exact tail_any (ops:=_) (Heap.IsList.typeIs ⟨_,i1',rfl,_,rfl⟩) slot_list_getitem.lookup (wpAny_getItem_list_slice (st:=none) ⟨_,i1',rfl,_,rfl⟩ ⟨_,Heap.get?_push_size _ rfl,rfl,rfl⟩ l1.2.2 u1.2.2 .none (by decide)
   ((R1.out K (by rw[e];exact (g.rels i2).cut) q).back (Step.grow (tk:=s.toks) g) rfl) (hlen▸hz)) rfl
inductive SoundO (C:Ctx) (k:Nat) (sc:Scope):PT V→Option Expr→Prop
 |none:SoundO C k sc ptNone none
 |some {P:PT V} {e:Expr} (h:SoundE C k sc P e):SoundO C k sc P (some e)
theorem SoundO.run {P:PT V} {e:Option Expr} (h:SoundO C k sc P e) {Q:V→St→Prop} (hs:env.scope=sc) (hE:EnvOk C env) (hL:Lim k A) (hR:Rel C env σ s) (q:P Q σ):
  wpAny (model C.prog C.w) A (evalPart e env) (PostE C env σ s Q) NoE s:=by
 cases h with
 |none=>rw[evalPart_none];exact wpAny_pure (PostE.now hR of_none q)
 |some h=>rw[evalPart_some];exact h.run hs hE hL hR q
noncomputable def ptSl (P L U:PT V):PT V:=fun Q σ=>P (fun x σ₁=>L (fun l σ₂=>U (fun u σ₃=>slPT x l u Q σ₃) σ₂) σ₁) σ
theorem s_sl (K:CtxOk C) {P L U:PT V} {value:Expr} {lower upper:Option Expr} {p pos:Pos} (hv:SoundE C k sc P value) (hl:SoundO C k sc L lower) (hu:SoundO C k sc U upper):
  SoundE C k sc (ptSl P L U) (.Subscript value (.Slice lower upper none p) pos):= .mk fun env A σ s Q hsc hE hL hR q=>
 Subscript_ (hv.bind hsc hE hL hR q fun v s₁ x σ₁ r1 R1 S1 v1 q=>wpAny_Slice (wpE (hl.run hsc hE hL R1 q) fun w s₂ l σ₂ r2 R2 S2 v2 q=>wpE (hu.run hsc hE hL R2 q) fun w' s₃ u σ₃ r3 R3 S3 v3 q=>by
  rw[evalPart_none]
  exact wpAny_pure (backE S1 v1 (backE S2 v2 (backE S3 v3 (sl_sound K R3 (S3.relE K R2 (S2.relE K R1 r1)) (S3.relE K R2 r2) r3 q))))))
end
end
section
open PySem PySem.Spec PySem.Calls PyProof.Rows PySem.W
section
variable {C:Ctx} {env:Env} {σ σ₁ σ':St} {s s₁ s':Shared} {A:Around} {k:Nat} {sc:Scope}
noncomputable def ptList (Ps:List (PT V)):PT V:=fun Q σ=>ptArgs Ps (fun xs σ₁=>xs.length≤sizeLine∧ ∀c,σ₁.lists c=none→Q (.lst c) (setL σ₁ c xs)) σ
theorem Rel.made (K:CtxOk C) (R:Rel C env σ s) {xs:List V} {vs:List Value} {Q:V→St→Prop} (r:RelVs C s.heap xs vs) (hz:xs.length≤sizeLine) (q: ∀c,σ.lists c=none→Q (.lst c) (Mine.setL σ c xs)):wpAny (model C.prog C.w) A (newList vs) (PostE C env σ s Q) NoE s:=
 wpAny_newList (R.out K (items:=vs.toArray) r q) (r.len▸hz)
theorem s_list (K:CtxOk C) {Ps:List (PT V)} {es:List Expr} {pos:Pos} (ha:SoundEs C k sc Ps es):SoundE C k sc (ptList Ps) (.List es pos):= .mk fun env A σ s Q hs hE hL hR q=>
 List_ (wpL (args_sound K ha hs hE hL hR q) fun vs s₁ xs σ₁ r1 R1 S1 v1 q=>backE S1 v1 (R1.made K r1 q.1 q.2))
noncomputable def ptTup (Ps:List (PT V)):PT V:=fun Q σ=>ptArgs Ps (fun xs σ₁=>xs.length≤sizeLine∧Q (.tup xs) σ₁) σ
theorem s_tup (K:CtxOk C) {Ps:List (PT V)} {es:List Expr} {n:Nat} {pos:Pos} (ha:SoundEs C k sc Ps es):SoundE C k sc (ptTup Ps) (.Tuple es n pos):= .mk fun env A σ s Q hs hE hL hR q=>
 Tuple_ (wpL (args_sound K ha hs hE hL hR q) fun vs s₁ xs σ₁ r1 R1 S1 v1 q=>
  have g:Grow s₁.heap (s₁.heap.push {cls:= .type "tuple",data:= .seq vs.toArray}):= .push _
  wpAny_newTuple (PostE.back S1 v1 (PostE.grow K R1 (x:= .tup xs) (tk:=s₁.toks) g ⟨_,vs.toArray,rfl,⟨_,Heap.get?_push_size _ rfl,rfl,0,rfl⟩,g.rels r1⟩ q.2)) (r1.len▸q.1))
noncomputable abbrev AT:=V→(St→Prop)→St→Prop
inductive PostA (C:Ctx) (env:Env) (σ:St) (s:Shared) (Q:St→Prop) (u:Unit) (s':Shared):Prop
 |mk (σ':St) (R:Rel C env σ' s') (S:Step (XS C env σ) σ σ' s s') (q:Q σ'):PostA C env σ s Q u s'
structure SoundA (C:Ctx) (k:Nat) (sc:Scope) (T:AT) (t:Expr):Prop where
 go: ∀(env:Env) (A:Around) (σ:St) (s:Shared) (Q:St→Prop) (x:V) (v:Value),env.scope=sc→EnvOk C env→Lim k A→Rel C env σ s→RelV C s.heap x v→T x Q σ→
  wpAny (model C.prog C.w) A (assign t env v) (PostA C env σ s Q) NoE s
theorem Step.relS (K:CtxOk C) (R:Rel C env σ s) (S:Step (XS C env σ) σ σ' s s') {x:V} {v:Value} (r:RelV C s.heap x v):RelV C s'.heap x v:=
 RelV.kept (fun a items t=>IsTup.kept t fun o e=>S.kept a o e fun xe=>R.noTupS K xe t) r
theorem Step.relSs (K:CtxOk C) (R:Rel C env σ s) (S:Step (XS C env σ) σ σ' s s') {x:List V} {v:List Value} (r:RelVs C s.heap x v):RelVs C s'.heap x v:=
 RelVs.kept (fun a items t=>IsTup.kept t fun o e=>S.kept a o e fun xe=>R.noTupS K xe t) r
theorem wpA {t:Sem Unit} {s₀:Shared} {Q:St→Prop} {R:Unit→Shared→Prop} (h:wpAny (model C.prog C.w) A t (PostA C env σ s₀ Q) NoE s)
  (f: ∀u s₁ σ₁,Rel C env σ₁ s₁→Step (XS C env σ) σ σ₁ s₀ s₁→Q σ₁→R u s₁):wpAny (model C.prog C.w) A t R NoE s:=
 wpAny_mono h (fun u s₁ p=>p.casesOn fun σ₁ R S q=>f u s₁ σ₁ R S q) fun _ _ x=>x
theorem backA {t:Sem Unit} {Q:St→Prop} {s₂:Shared} (S:Step (XS C env σ) σ σ₁ s s₁) (h:wpAny (model C.prog C.w) A t (PostA C env σ₁ s₁ Q) NoE s₂):wpAny (model C.prog C.w) A t (PostA C env σ s Q) NoE s₂:=
 wpA h fun u s' σ' R S' q=>⟨σ',R,S.transS S',q⟩
noncomputable def atName (i:Nat):AT:=fun x Q σ=>Q (setV σ i x)
theorem bind_local (K:CtxOk C) {x:Str} {i:Nat} {d:V} {v:Value} {Q:St→Prop} (hi:env.scope.names[i]? =some (x,.local)) (hl:env.scope.names.lookup x=some .local) (hE:EnvOk C env) (hR:Rel C env σ s) (r:RelV C s.heap d v) (q:Q (setV σ i d)):
  wpAny (model C.prog C.w) A (storeName env x v) (PostA C env σ s Q) NoE s:=
 hR.vars.elim fun m hm=>wpAny_storeName_local hl hm.1 (fun h' hn hsb=>have T:=hR.store_local K hE (tk:=s.toks+1) hm.1 hi r hn hsb;⟨_,T.1,T.2,q⟩) (by rw[hE.kind];rfl)
theorem a_name (K:CtxOk C) {x:Str} {pos:Pos} (i:Nat) (hi:sc.names[i]? =some (x,.local)) (hl:sc.names.lookup x=some .local):SoundA C k sc (atName i) (.Name x pos):= .mk fun env A σ s Q d v hs hE hL hR r q=>by
 subst hs
 exact wpAny_assign_Name (bind_local K hi hl hE hR r q)
theorem a_cell (K:CtxOk C) {x:Str} {pos:Pos} (i:Nat) (hi:sc.names[i]? =some (x,.cell)) (hl:sc.names.lookup x=some .cell):SoundA C k sc (atName i) (.Name x pos):= .mk fun env A σ s Q d v hs hE hL hR r q=>by
 subst hs
 exact (hE.own x hl).elim fun c hc=>(hR.cells x c hc).elim fun v₀ hz=>wpAny_assign_Name (wpAny_storeName_cell hE.kind hl hc hz fun h' hn hsb=>have T:=hR.store_cell K hE (tk:=s.toks) hi hl hc r hn hsb;⟨_,T.1,T.2,q⟩)
inductive SoundAs (C:Ctx) (k:Nat) (sc:Scope):List AT→List Expr→Prop
 |nil:SoundAs C k sc [] []
 |cons {T:AT} {Ts:List AT} {e:Expr} {es:List Expr} (h:SoundA C k sc T e) (hs: ∀es env,assignEach (e::es) env=(false,assign e env)::assignEach es env) (t:SoundAs C k sc Ts es):SoundAs C k sc (T::Ts) (e::es)
noncomputable def atSeq:List AT→List V→(St→Prop)→St→Prop
 |[],[],Q,σ=>Q σ
 |T::Ts,x::xs,Q,σ=>T x (fun σ₁=>atSeq Ts xs Q σ₁) σ
 |_,_,_,_=>False
theorem SoundAs.len {Ts:List AT} {es:List Expr} (h:SoundAs C k sc Ts es) (env:Env):(assignEach es env).length=Ts.length:=by
 induction h with
 |nil=>rfl
 |cons h hs t ih=>rw[hs,List.length_cons,ih,List.length_cons]
theorem SoundAs.star {Ts:List AT} {es:List Expr} (h:SoundAs C k sc Ts es) (env:Env):(assignEach es env).findIdx? (·.1)=none:=by
 induction h with
 |nil=>rfl
 |cons h hs t ih=>rw[hs,List.findIdx?_cons];simp[ih]
theorem seq_sound (K:CtxOk C) {Ts:List AT} {es:List Expr} (h:SoundAs C k sc Ts es) {Q:St→Prop} {xs:List V} {vs:List Value} (hs:env.scope=sc) (hE:EnvOk C env) (hL:Lim k A) (hR:Rel C env σ s) (r:RelVs C s.heap xs vs) (q:atSeq Ts xs Q σ):
  wpAny (model C.prog C.w) A (assignInOrder ((assignEach es env).map (·.2)) vs) (PostA C env σ s Q) NoE s:=by
 induction h generalizing σ s xs vs with
 |nil=>
  cases xs with
  |nil=>exact wpAny_pure ⟨σ,hR,Step.refl,q⟩
  |cons=>exact q.elim
 | @cons T Ts e es h hst t ih=>
  cases xs with
  |nil=>exact q.elim
  |cons x xs=>
   rw[hst]
   refine r.eC fun v w r1 r2=>?_
   show wpAny _ A (do holding w (assign _ env v);assignInOrder _ w) _ _ s
   exact wpAny_bind (wpAny_holding (wpA (h.go env A σ s _ x v hs hE hL hR r1 q) fun u s₁ σ₁ R1 S1 q=>backA S1 (ih R1 (S1.relSs K hR r2) q)))
theorem Grow.ext {h h':Heap} (e:Heap.ExtBut h.objs.size h h'):Grow h h':=fun b o q=>e b o (ne_at q (get_size _)) q
noncomputable def atTup (Ts:List AT):AT:=fun x Q σ=> ∃l,x= .tup l∧l.length=Ts.length∧atSeq Ts l Q σ
theorem a_tup (K:CtxOk C) {Ts:List AT} {es:List Expr} {n:Nat} {pos:Pos} (h:SoundAs C k sc Ts es):SoundA C k sc (atTup Ts) (.Tuple es n pos):= .mk fun env A σ s Q d v hs hE hL hR r q=>q.elim fun l z=>by
 cases z.1
 refine r.eT fun a items t1 t2=>?_
 show wpAny _ A (do standAt pos;unpack (.ref a) (assignEach es env)) _ _ s
 exact wpAny_bind (wpAny_standAt (unpack_tuple hL.handled t1 (by rw[h.len env,←z.2.1,←Array.length_toList,t2.len]) (h.star env) fun h' he=>
  have g:Grow s.heap h':=Grow.ext he
  backA (Step.ES (Step.grow (tk:=s.toks) g)) (seq_sound K h hs hE hL (hR.grow K (tk:=s.toks) g) (g.rels t2) z.2.2)))
theorem setItem_plain {prog:Program} {w:World} {E:Value→Shared→Prop} {l:Addr} {items:Array Value} {n:Nat} {i:Int} {t:Tok} {v:Value} {Q:Unit→Shared→Prop} (e:s.heap.get? l=some {cls:= .type "list",dict:=none,data:= .seq items n,slots:= #[]})
  (h0:0≤i) (hfit:i<2^63) (hn:i<items.size) (hQ:Q () {s with heap:=s.heap.update l (Obj.mapSeq (·.setIfInBounds i.toNat v))}):
  wpAny (model prog w) A (setItem (.ref l) (.int i t) v) Q E s:=by
 have hl:s.heap.IsList l items:=⟨_,e,rfl,_,rfl⟩
 unfold setItem
 try with_reducible refine wpAny_holding ?_
 first|refine wpAny_bind (wpAny_pure ?_)|skip
 refine wpAny_bind (wpAny_sequenceKey hl.typeIs (by decide) ?_)
 refine wpAny_bind (wpAny_callSpecial?_slot (name:=Str.ofString "__setitem__") hl.typeIs PySem.slot_list_setitem
  (wpAny_call_entry PySem.slot_list_setitem hl.typeIs PySem.entry_list_setitem ?_ (PySem.args_list_setitem _ _ _)))
 show wpAny _ _ (Builtin.List.listSubscript? (.int i t) >>= _) _ _ s
 refine wpAny_bind (wpAny_listSubscript_int (fitsIndex_of h0 hfit) ?_)
 clear hfit
 obtain ⟨j,rfl⟩:=Int.eq_ofNat_of_zero_le h0
 have hj:j<items.size:=by lia
 have hx':items[j]? =some items[j]:=Array.getElem?_eq_getElem hj
 show wpAny _ _ ((seqItemAt l j >>= fun r=>pure (r.map (j, ·))) >>= _) _ _ s
 refine wpAny_bind (wpAny_bind (wpAny_seqItemAt e rfl (wpAny_pure ?_)))
 rw[hx']
 show wpAny _ _ (setSeqItemAt l j v >>= _) _ _ s
 refine wpAny_bind (wpAny_setSeqItemAt e rfl ?_)
 first
  |exact wpAny_bind (wpAny_pure (wpAny_pure ⟨.none,rfl,wpAny_pure hQ⟩))
  |exact wpAny_pure ⟨.none,rfl,wpAny_pure hQ⟩
inductive SitR (y:V) (Q:St→Prop) (σ:St):V→V→Prop
 |mk {a:Addr} {i:Int} {xs:List V} (h:σ.lists a=some xs) (h0:0≤i) (hi:i.toNat<xs.length) (hz:xs.length≤sizeLine) (q:Q (setL σ a (xs.set i.toNat y))):SitR y Q σ (.lst a) (.int i)
noncomputable def sitPT (x i y:V) (Q:St→Prop) (σ:St):Prop:=SitR y Q σ x i
inductive PostU (C:Ctx) (env:Env) (σ:St) (s:Shared) (Q:St→Prop) (u:Unit) (s':Shared):Prop
 |mk (σ':St) (R:Rel C env σ' s') (S:Step (XE C σ) σ σ' s s') (v:σ'.vars=σ.vars) (q:Q σ'):PostU C env σ s Q u s'
theorem wpU {t:Sem Unit} {s₀:Shared} {Q:St→Prop} {R:Unit→Shared→Prop} (h:wpAny (model C.prog C.w) A t (PostU C env σ s₀ Q) NoE s)
  (f: ∀u s₁ σ₁,Rel C env σ₁ s₁→Step (XE C σ) σ σ₁ s₀ s₁→σ₁.vars=σ.vars→Q σ₁→R u s₁):wpAny (model C.prog C.w) A t R NoE s:=
 wpAny_mono h (fun u s₁ p=>p.casesOn fun σ₁ R S v q=>f u s₁ σ₁ R S v q) fun _ _ x=>x
theorem sit_sound (K:CtxOk C) {x i y:V} {vx vi vy:Value} {Q:St→Prop} (hE:EnvOk C env) (hR:Rel C env σ s) (rx:RelV C s.heap x vx) (ri:RelV C s.heap i vi) (ry:RelV C s.heap y vy) (q:sitPT x i y Q σ):
  wpAny (model C.prog C.w) A (setItem vx vi vy) (PostU C env σ s Q) NoE s:=by
 replace q:SitR y Q σ x i:=q
 induction q with
 | @mk a i xs h h0 hi hz q=>
  refine rx.eL (ri.eI fun u=>hR.at h fun items n l1 l2 e=>?_)
  have hi:i<items.size:=(Int.toNat_lt h0).mp (e▸hi)
  have p:=listUpd l1 (fun x=>x.setIfInBounds i.toNat vy)
  have R:=hR.setL K hE (tk:=s.toks) (ys:=xs.set i.toNat y) h p.1 (by rw[Array.toList_setIfInBounds];exact l2.set ry) p.2
  exact setItem_plain l1 h0 (Int.lt_trans hi (len_ok hz e)) hi ⟨_,R.1,R.2,rfl,q⟩
inductive IpR (Q:V→St→Prop) (σ:St):Operator→V→V→Prop
 |addI {a b:Int} (q:Q (.int (a+b)) σ):IpR Q σ .Add (.int a) (.int b)
 |addS {a b:Str} (h:a.length+b.length≤sizeLine) (q:Q (.str (a++b)) σ):IpR Q σ .Add (.str a) (.str b)
 |addL {a b:Addr} {xs ys:List V} (hx:σ.lists a=some xs) (hy:σ.lists b=some ys) (hn:xs.length+ys.length≤sizeLine) (q:Q (.lst a) (setL σ a (xs++ys))):IpR Q σ .Add (.lst a) (.lst b)
 |sub {a b:Int} (q:Q (.int (a-b)) σ):IpR Q σ .Sub (.int a) (.int b)
 |mul {a b:Int} (h:IntMulOk a b) (q:Q (.int (a*b)) σ):IpR Q σ .Mult (.int a) (.int b)
 |div {a b:Int} (h:b≠0) (h':b.natAbs<1073741824) (q:Q (.int (a.fdiv b)) σ):IpR Q σ .FloorDiv (.int a) (.int b)
 |shl {a n:Int} (h:0≤n) (h':(Builtin.Int.intBits a:Int)+n≤2^27) (q:Q (.int (a*2^n.toNat)) σ):IpR Q σ .LShift (.int a) (.int n)
 |shr {a n:Int} (h:0≤n) (q:Q (.int (a.fdiv (2^n.toNat))) σ):IpR Q σ .RShift (.int a) (.int n)
noncomputable def ipPT (op:Operator) (x y:V):PT V:=fun Q σ=>IpR Q σ op x y
theorem noFill_list_add':fillsNumberSlot (.type "list") "add" =pure false:=by
 first
  |exact noFill_list_add
  |exact fillsNumberSlot_seq (id:="list.__add__") F.slot_list_add.lookup (by decide+kernel) F.slot_list_radd.lookup (by decide+kernel)
theorem iadd_list {prog:Program} {w:World} {E:Value→Shared→Prop} {a b:Addr} {items items2:Array Value} {n n2:Nat} {Q:Value→Shared→Prop} (e1:s.heap.get? a=some {cls:= .type "list",dict:=none,data:= .seq items n,slots:= #[]})
  (e2:s.heap.get? b=some {cls:= .type "list",dict:=none,data:= .seq items2 n2,slots:= #[]}) (hz:items.size+items2.size≤sizeLine) (h:Q (.ref a) {s with heap:=s.heap.update a (Obj.mapSeq fun x=>x++items2),toks:=s.toks}):
  wpAny (model prog w) A (inplaceOp .Add (.ref a) (.ref b)) Q E s:=by
 have ha:s.TypeIs (.ref a) "list" :=Heap.IsList.typeIs ⟨_,e1,rfl,_,rfl⟩
 have hb:s.TypeIs (.ref b) "list" :=Heap.IsList.typeIs ⟨_,e2,rfl,_,rfl⟩
 have hs:isSeqSlot (some (.builtin "list.__iadd__"))=true:=by decide+kernel
 unfold inplaceOp
 refine wpAny_holding ?_
 have hfi:fillsInplaceSlot (.type "list") "add" (Operator.Add== .Add)=pure false:=by
  unfold fillsInplaceSlot
  show (typeLookup (.type "list") (dunderI "add") >>= fun fi=>pure (fi.isSome&& !isSeqSlot fi))=pure false
  rw[F.slot_list_iadd.lookup]
  simp only[pure_bind,hs]
  rfl
 refine wpAny_bind (wpAny_typeOf ha (wpAny_bind (wpAny_of_eq hfi ?_)))
 show wpAny _ A (if false=true then _ else _) Q E s
 rw[if_neg Bool.false_ne_true]
 refine wpAny_bind (wpAny_binaryOp1_none (nm:="add") ha hb noFill_list_add' ?_)
 refine wpAny_bind (wpAny_of_eq (PySem.seqSlot_of (id:="list.__iadd__") F.slot_list_iadd.lookup hs) ?_)
 exact wpAny_bind (wpAny_rule (call_meets F.slot_list_iadd ha F.entry_list_iadd (F.args_list_iadd_2 _ _)
  (AutoSeq1.list___iadd___list_list_0 a items n b items2 n2 (by simp only[Builtin.List.listTooLong,Bool.and_eq_true,decide_eq_true_eq,not_and];exact fun _=>Nat.not_lt.mpr hz) (Nat.le_trans (Nat.le_add_right _ _) hz) (Nat.le_succ_of_le hz)) ⟨e1,e2,h⟩))
theorem ip_sound (K:CtxOk C) (hL:Lim k A) {op:Operator} {x y:V} {vx vy:Value} {Q:V→St→Prop} (hE:EnvOk C env) (hR:Rel C env σ s) (rx:RelV C s.heap x vx) (ry:RelV C s.heap y vy)
  (q:ipPT op x y Q σ):wpAny (model C.prog C.w) A (inplaceOp op vx vy) (PostE C env σ s Q) NoE s:=by
 replace q:IpR Q σ op x y:=q
 induction q with
 |addI q=>exact rx.eII ry fun _ _=>PyProof.Rows.iadd_int (.tok hR of_int q)
 |addS h q=>exact rx.eSS ry fun _ _=>PyProof.Rows.iadd_str (fun _ _=> .tok hR of_str q) h
 |addL hx hy hn q=>exact rx.eL (ry.eL (hR.at hx fun its n1 l1 r1 e1=>hR.at hy fun jts n2 l2 r2 e2=>
   iadd_list l1 l2 (by rw[←e1,←e2];exact hn) (PostE.upd K hE hR (tk:=s.toks) (fun x=>x++jts) hx l1 (by rw[Array.toList_append];exact r1.append r2) of_lst q)))
 |sub q=>exact rx.eII ry fun _ _=>isub_int (.tok hR of_int q)
 |mul h q=>exact rx.eII ry fun _ _=>imul_int (.tok hR of_int q) h
 |div h h' q=>exact rx.eII ry fun _ _=>ifloordiv_int h (.tok hR of_int q) (.inl (PyProof.noPylong_small h'))
 |shl h h' q=>exact rx.eII ry fun _ _=>ilshift_int h h' (.tok hR of_int q)
 |shr h q=>exact rx.eII ry fun _ _=>irshift_int_or hL.handled (fun z=>absurd h (Int.not_le.mpr z)) (fun _=> .tok hR of_int q)
end
end
section
open PySem PySem.Spec PySem.Calls PyProof.Rows PySem.W
section
variable {C:Ctx} {env:Env} {σ σ₁ σ':St} {s s₁ s':Shared} {A:Around} {k:Nat} {sc:Scope}
noncomputable def atSub (P R:PT V):AT:=fun y Q σ=>P (fun x σ₁=>R (fun i σ₂=>sitPT x i y Q σ₂) σ₁) σ
theorem a_sub (K:CtxOk C) {P R:PT V} {o i:Expr} {pos:Pos} (ho:SoundE C k sc P o) (hi:SoundE C k sc R i):SoundA C k sc (atSub P R) (.Subscript o i pos):= .mk fun env A σ s Q y v hs hE hL hR r q=>by
 rw[assign_Subscript]
 exact wpAny_bind (wpAny_holding (ho.bind hs hE hL hR q fun vo s₁ x σ₁ r1 R1 S1 v1 q=>wpAny_bind (wpAny_holding (hi.bind hs hE hL R1 q fun vi s₂ j σ₂ r2 R2 S2 v2 q=>
  wpAny_bind (wpAny_standAt (wpAny_bind (wpAny_holding (wpU (sit_sound K hE R2 (S2.relE K R1 r1) r2 (S2.relE K R1 (S1.relE K hR r)) q) fun u s₃ σ₃ R3 S3 v3 q=>
   wpAny_release ⟨σ₃,R3,Step.ES ((S1.transE S2).transE S3),q⟩))))))))
inductive SoundAll (C:Ctx) (k:Nat) (sc:Scope):List AT→List Expr→Prop
 |one {T:AT} {e:Expr} (h:SoundA C k sc T e) (hs: ∀env,assignEach [e] env=[(false,assign e env)]):SoundAll C k sc [T] [e]
 |cons {T:AT} {Ts:List AT} {e e':Expr} {es:List Expr} (h:SoundA C k sc T e) (hs: ∀env,assignEach (e::e'::es) env=(false,assign e env)::assignEach (e'::es) env) (hl: ∀env,(assignEach (e'::es) env).length=es.length+1) (t:SoundAll C k sc Ts (e'::es)):SoundAll C k sc (T::Ts) (e::e'::es)
noncomputable def atAll:List AT→V→(St→Prop)→St→Prop
 |[],_,Q,σ=>Q σ
 |T::Ts,x,Q,σ=>T x (fun σ₁=>atAll Ts x Q σ₁) σ
theorem assignAll_cons (v:Value) (f:Value→Sem Unit) {l:List (Value→Sem Unit)} (n:l≠[]):assignAll v (f::l)=(do holding [v] (f v);assignAll v l):=by
 cases l with
 |nil=>exact (n rfl).elim
 |cons=>rfl
theorem tgts_sound (K:CtxOk C) {Ts:List AT} {es:List Expr} (h:SoundAll C k sc Ts es) {Q:St→Prop} {x:V} {v:Value} (hsc:env.scope=sc) (hE:EnvOk C env) (hL:Lim k A) (hR:Rel C env σ s) (r:RelV C s.heap x v) (q:atAll Ts x Q σ):
  wpAny (model C.prog C.w) A (assignAll v ((assignEach es env).map (·.2))) (PostA C env σ s Q) NoE s:=by
 induction h generalizing σ s with
 |one h hs=>
  rw[hs]
  exact h.go env A σ s Q x v hsc hE hL hR r q
 |cons h hs hl t ih=>
  rw[hs,List.map_cons,assignAll_cons _ _ fun z=>nomatch (hl env).symm.trans ((List.length_map (·.2)).symm.trans (congrArg List.length z))]
  exact wpAny_bind (wpAny_holding (wpA (h.go env A σ s _ x v hsc hE hL hR r q) fun u s₁ σ₁ R1 S1 q=>backA S1 (ih R1 (S1.relS K hR r) q)))
noncomputable def ptAsgs (Ts:List AT) (P:PT V):PT Fl:=fun Q σ=>P (fun v σ'=>atAll Ts v (fun σ''=>Q .next σ'') σ') σ
theorem s_asgs (K:CtxOk C) {Ts:List AT} {P:PT V} {ts:List Expr} {e:Expr} {pos:Pos} (ht:SoundAll C k sc Ts ts) (h:SoundE C k sc P e)
  (hs: ∀env:Env,env.scope=sc→swapsWithSole ts e pos.line env=pure false) (hw: ∀env:Env,env.scope=sc→swappedStores ts e env=pure none):Sound1 C k sc (ptAsgs Ts P) (.Assign ts e pos):= .mk fun env A σ s Q hsc hE hL hR q=>
 wpAny_Assign_stores (h.bind hsc hE hL hR q fun v s' x' σ' r R S _ q=>wpA (tgts_sound K ht hsc hE hL R r q) fun u s₂ σ₂ R2 S2 q=>⟨.next,σ₂,rfl,R2,S.transES S2,q⟩) (hs env hsc) (hw env hsc)
inductive SoundNs (C:Ctx) (k:Nat) (sc:Scope):List Nat→List Str→Prop
 |nil:SoundNs C k sc [] []
 |cons {i:Nat} {is:List Nat} {x:Str} {xs:List Str} (hi:sc.names[i]? =some (x,.local)) (hl:sc.names.lookup x=some .local) (t:SoundNs C k sc is xs):SoundNs C k sc (i::is) (x::xs)
theorem ns_sound (K:CtxOk C) {is:List Nat} {ns:List Str} (h:SoundNs C k sc is ns) {Q:St→Prop} {xs:List V} {vs:List Value} (hs:env.scope=sc) (hE:EnvOk C env) (hR:Rel C env σ s) (r:RelVs C s.heap xs vs) (q:atSeq (is.map atName) xs Q σ):
  wpAny (model C.prog C.w) A (assignInOrder (ns.map fun n=>bindName env n) vs) (PostA C env σ s Q) NoE s:=by
 subst hs
 induction h generalizing σ s xs vs with
 |nil=>
  cases xs with
  |nil=>exact wpAny_pure ⟨σ,hR,Step.refl,q⟩
  |cons=>exact q.elim
 | @cons i is x ns hi hl t ih=>
  cases xs with
  |nil=>exact q.elim
  |cons d xs=>
   refine r.eC fun v w r1 r2=>?_
   show wpAny _ A (do holding w (bindName env x v);assignInOrder _ w) _ _ s
   exact wpAny_bind (wpAny_holding (wpA (bindName_ (bind_local K hi hl hE hR r1 q)) fun u s₁ σ₁ R1 S1 q=>backA S1 (ih R1 (S1.relSs K hR r2) q)))
noncomputable def ptSwap (is:List Nat) (P:PT V):PT Fl:=fun Q σ=>P (fun v σ'=> ∃l,v= .tup l∧l.length=is.length∧atSeq (is.map atName) l.reverse (fun σ''=>Q .next σ'') σ') σ
theorem s_swap (K:CtxOk C) {is:List Nat} {ns:List Str} {P:PT V} {elts:List Expr} {n:Nat} {tpos pos:Pos} {e:Expr} (ht:SoundNs C k sc is ns.reverse) (h:SoundE C k sc P e) (hn:ns.length=is.length)
  (hs: ∀env:Env,env.scope=sc→swapsWithSole [.Tuple elts n tpos] e pos.line env=pure false) (hw: ∀env:Env,env.scope=sc→swappedStores [.Tuple elts n tpos] e env=pure (some ns)):Sound1 C k sc (ptSwap is P) (.Assign [.Tuple elts n tpos] e pos):= .mk fun env A σ s Q hsc hE hL hR q=>
 Assign_Tuple_swapped (h.bind hsc hE hL hR q fun v s' x' σ' r R S _ q=>q.elim fun l z=>by
  cases z.1
  refine r.eT fun a items t1 t2=>?_
  rw[hn,←z.2.1,t2.len,Array.length_toList]
  exact unpackItems_tuple hL.handled t1 fun h' he=>
   have g:Grow s'.heap h':=Grow.ext he
   wpA (ns_sound K ht hsc hE (R.grow K (tk:=s'.toks) g) (g.rels t2.reverse) z.2.2) fun u s₂ σ₂ R2 S2 q=>⟨.next,σ₂,rfl,R2,(S.transE (Step.grow (tk:=s'.toks) g)).transES S2,q⟩) (hs env hsc) (hw env hsc)
noncomputable def ptAug (i:Nat) (op:Operator) (P:PT V):PT Fl:=fun Q σ=> ∃x,σ.vars i=some x∧P (fun y σ₁=>ipPT op x y (fun z σ₂=>Q .next (setV σ₂ i z)) σ₁) σ
theorem s_aug (K:CtxOk C) {x:Str} {pos' pos:Pos} {op:Operator} {P:PT V} {e:Expr} (i:Nat) (hi:sc.names[i]? =some (x,.local)) (hl:sc.names.lookup x=some .local) (h:SoundE C k sc P e):
  Sound1 C k sc (ptAug i op P) (.AugAssign (.Name x pos') op e pos):= .mk fun env A σ s Q hs hE hL hR q=>q.elim fun d q=>by
 subst hs
 exact hR.vars.elim fun m hm=>(hm.2 i d q.1).on hi fun val e2 e3 _=>wpAny_AugAssign_Name (wpAny_loadName_local hE.kind hl hm.1 (e3 rfl) (h.bind rfl hE hL hR q.2 fun v s₁ y σ₁ r1 R1 S1 v1 q=>
  wpE (ip_sound K hL hE R1 (S1.relE K hR e2) r1 q) fun v s₂ z σ₂ r2 R2 S2 v2 q=>wpA (bind_local K hi hl hE R2 r2 q) fun u s₃ σ₃ R3 S3 q=>⟨.next,_,rfl,R3,(S1.transE S2).transES S3,q⟩))
noncomputable def ptAugSub (op:Operator) (P R T:PT V):PT Fl:=fun Q σ=>P (fun x σ₁=>R (fun i σ₂=>itPT x i (fun old σ₃=>T (fun y σ₄=>ipPT op old y (fun z σ₅=>sitPT x i z (fun σ₆=>Q .next σ₆) σ₅) σ₄) σ₃) σ₂) σ₁) σ
theorem s_augSub (K:CtxOk C) (Z:ScrOk C) {op:Operator} {P R T:PT V} {o i value:Expr} {tpos pos:Pos} (ho:SoundE C k sc P o) (hi:SoundE C k sc R i) (hv:SoundE C k sc T value)
  (ha: ∀ov iv new,augStore i ov iv new=(do holding [new,ov,iv] (setItem ov iv new);release [new,ov,iv] [];pure .next)):Sound1 C k sc (ptAugSub op P R T) (.AugAssign (.Subscript o i tpos) op value pos):= .mk fun env A σ s Q hs hE hL hR q=>
 wpAny_AugAssign_SubscriptAny (ho.bind hs hE hL hR q fun vo s₁ x σ₁ r1 R1 S1 v1 q=>hi.bind hs hE hL R1 q fun vi s₂ j σ₂ r2 R2 S2 v2 q=>
  have r1':=S2.relE K R1 r1
  wpE (it_done Z R2 r1' r2 q).plain fun v s₃ old σ₃ r3 R3 S3 v3 q=>hv.bind hs hE hL R3 q fun v s₄ y σ₄ r4 R4 S4 v4 q=>wpE (ip_sound K hL hE R4 (S4.relE K R3 r3) r4 q) fun v s₅ z σ₅ r5 R5 S5 v5 q=>
   have S25:=(S3.transE S4).transE S5
   wpU (sit_sound K hE R5 (S25.relE K R2 r1') (S25.relE K R2 r2) r5 q) fun u s₆ σ₆ R6 S6 v6 q=>⟨.next,σ₆,rfl,R6,Step.ES (((S1.transE S2).transE S25).transE S6),q⟩) ha
noncomputable def ptExpr (P:PT V):PT Fl:=fun Q σ=>P (fun _ σ₁=>Q .next σ₁) σ
theorem s_expr {P:PT V} {e:Expr} {pos:Pos} (h:SoundE C k sc P e) (hi: ∀env:Env,EnvOk C env→env.scope=sc→interactive env=false) (hs: ∀env:Env,swapsWith e none pos.line env=pure false):Sound1 C k sc (ptExpr P) (.Expr e pos):= .mk fun env A σ s Q hsc hE hL hR q=>
 wpAny_Expr_any (h.bind hsc hE hL hR q fun v s₁ x σ₁ r1 R1 S1 v1 q=>⟨.next,σ₁,rfl,R1,Step.ES S1,q⟩) (hi env hE hsc) (hs env)
noncomputable def forK (P:St→Prop) (QF:Fl→St→Prop):Fl→St→Prop:=fun f σ₂=>match f with
 | .next| .cont=>P σ₂
 | .brk=>QF .next σ₂
 | .ret v=>QF (.ret v) σ₂
noncomputable def ptWhile (P:PT Bool) (B:PT Fl):PT Fl:=fun Q σ=> ∃(I:Nat→St→Prop) (n:Nat),I n σ∧ ∀n σ,I n σ→P (fun b σ₁=>if b=true then B (forK (fun σ₂=> ∃m,m<n∧I m σ₂) Q) σ₁ else Q .next σ₁) σ
inductive WhileI (C:Ctx) (env:Env) (σ:St) (s:Shared) (I:Nat→St→Prop) (n:Nat) (s':Shared):Prop
 |mk (σ':St) (h:I n σ') (R:Rel C env σ' s') (S:Step (XS C env σ) σ σ' s s'):WhileI C env σ s I n s'
theorem s_while {P:PT Bool} {B:PT Fl} {test:Expr} {body:List Stmt} {pos:Pos} (ht:SoundB C k sc P test) (hb:SoundS C k sc B body):Sound1 C k sc (ptWhile P B) (.While test body [] pos):= .mk fun env A σ s Q hsc hE hL hR q=>q.elim fun I q=>q.elim fun n q=>
 wpAny_While (codeAny_whileLoop (WhileI C env σ s I) (fun n s' J=>J.casesOn fun σ' hI R' S'=>wpAny_passesOwn PassesOwn.never (ht.bind hsc hE hL R' (q.2 n σ' hI) fun b s₁ σ₁ R1 S1 v1 q=>
  have S1':=S'.transS (Step.ES S1)
  onB q (fun q=>wpAny_passesOwn PassesOwn.never (wpS (hb.go env A σ₁ s₁ _ hsc hE hL R1 q) fun f s₂ g σ₂ rf R2 S2 q=>by
   have S2':=S1'.transS S2
   cases g with
   |next=>cases (show f= .next from rf);exact q.imp fun m z=>⟨z.1,σ₂,z.2,R2,S2'⟩
   |cont=>cases (show f= .cont from rf);exact q.imp fun m z=>⟨z.1,σ₂,z.2,R2,S2'⟩
   |brk=>cases (show f= .brk from rf);exact ⟨.next,σ₂,rfl,R2,S2',q⟩
   |ret x=>exact rf.elim fun v r=>r.1▸⟨.ret x,σ₂,⟨v,rfl,r.2⟩,R2,S2',q⟩)) fun q=>wpAny_execs_nil ⟨.next,σ₁,rfl,R1,S1',q⟩)) n ⟨σ,q.1,hR,Step.refl⟩)
end
end
section
open PySem PySem.Spec PySem.Calls PyProof.Rows PySem.W
section
variable {C:Ctx} {env:Env} {σ σ₁ σ':St} {s s₁ s':Shared} {A:Around} {k:Nat} {sc:Scope}
noncomputable def okIter (n:String):Bool:=n != "tuple" && !(["enumerate","zip","dict_itemiterator","dict_reverseitemiterator","odict_iterator","itertools.zip_longest","itertools.pairwise"].contains n)
theorem letGo_tup {prog:Program} {w:World} {E:Value→Shared→Prop} {I:Addr} {v:Value} {o:Obj} {n:String} {Q:Unit→Shared→Prop} (e:s.heap.get? I=some o) (c:o.cls= .type n) (h:okIter n=true) (q:Q () s) (es:List Expr) (k:Nat) (p:Pos):
  wpAny (model prog w) A (letOwnedTupleGo (.Tuple es k p) (.ref I) v) Q E s:=by
 have z:wpAny (model prog w) A (pure ()) Q E s:=wpAny_pure q
 cases v with
 |ref a=>
  refine wpAny_bind (wpAny_load e ?_)
  rw[c]
  cases o.data with
  |fields vs=>dsimp only;rw[(Bool.not_eq_true' _).mp (Bool.and_eq_true_iff.mp h).2];exact z
  |_=>exact z
 |_=>exact z
theorem letGo_ok {prog:Program} {w:World} {E:Value→Shared→Prop} {target:Expr} {I:Addr} {v:Value} {o:Obj} {n:String} {Q:Unit→Shared→Prop} (e:s.heap.get? I=some o) (c:o.cls= .type n) (h:okIter n=true) (q:Q () s):
  wpAny (model prog w) A (letOwnedTupleGo target (.ref I) v) Q E s:=by
 have z:wpAny (model prog w) A (pure ()) Q E s:=wpAny_pure q
 have t:=letGo_tup (prog:=prog) (w:=w) (A:=A) (E:=E) (v:=v) (Q:=Q) e c h q [] 0 default
 clear q e c h
 cases target<;>first
  |exact z
  |exact t
theorem not_code {o:Obj} {vs:Array Value} (d:o.data= .fields vs) (n: ∀q t,vs[1]?≠some (.str q t)): ¬CodeLike o:=fun w=>w.elim fun vs' w=>w.elim fun q w=>w.elim fun t w=>n q t (Data.fields.inj (d.symm.trans w.1)▸w.2)
inductive ItObj (h:Heap) (I:Addr):Prop
 |mk (o:Obj) (n:String) (e:h.get? I=some o) (c:o.cls= .type n) (k:okIter n=true) (d: ∀v,o.data≠ .cell v) (z: ¬CodeLike o):ItObj h I
theorem ItObj.noTup {h:Heap} {I:Addr} (x:ItObj h I) (items:Array Value) (t:IsTup h I items):False:=
 x.casesOn fun o n e c k _ _=>t.elim fun o' t=>two_at t.1 e fun q=>by
  subst q
  cases t.2.1.symm.trans c
  cases k
theorem ItObj.noCode {h:Heap} {I:Addr} (x:ItObj h I) (o:Obj) (e:h.get? I=some o): ¬CodeLike o:=x.casesOn fun o' n e' c k _ z=>two_at e' e fun q=>q▸z
theorem ItObj.noCell {h:Heap} {I:Addr} (x:ItObj h I) {v:Option Value} (t:h.IsCell I v):False:=x.casesOn fun o' n e' c k d _=>cell_at t fun o e y=>two_at e' e fun q=>d v (q▸y)
inductive PostN (C:Ctx) (I:Addr) (W:Nat→Heap→Prop) (xs:List V) (i:Nat) (s:Shared) (r:Option Value) (s':Shared):Prop
 |some (x:V) (v:Value) (h':Heap) (tk:Nat) (e:s'={s with heap:=h',toks:=tk}) (g:GrowBut I s.heap h') (hx:xs[i]? =some x) (er:r=some v) (rv:RelV C h' x v) (w:W (i+1) h'):PostN C I W xs i s r s'
 |none (h':Heap) (tk:Nat) (e:s'={s with heap:=h',toks:=tk}) (g:GrowBut I s.heap h') (hx:xs[i]? =none) (er:r=none):PostN C I W xs i s r s'
structure IterAt (C:Ctx) (A:Around) (I:Addr) (St:Nat→Heap→Prop) (xs:List V) (G:Mine.St→Prop):Prop where
 frame: ∀i h h',St i h→(∀o,h.get? I=some o→h'.get? I=some o)→St i h'
 obj: ∀i h,St i h→ItObj h I
 self: ∀i (s:Shared) (Q:Value→Shared→Prop) (E:Value→Shared→Prop),St i s.heap→Q (.ref I) s→wpAny (model C.prog C.w) A (pyIter (.ref I)) Q E s
 next: ∀env σ' s' i,Rel C env σ' s'→G σ'→St i s'.heap→i≤xs.length→wpAny (model C.prog C.w) A (pyNext (.ref I)) (PostN C I St xs i s') NoE s'
structure Apart (C:Ctx) (env:Env) (σ:St) (I:Addr):Prop where
 lst:σ.lists I=none
 ro:σ.ro I=none
 base:C.base.get? I=none
 loc:I≠env.locals
 cell: ∀x,env.cells.lookup x≠some I
theorem Rel.free (K:CtxOk C) (R:Rel C env σ s) {I:Addr} (h:s.heap.get? I=none):Apart C env σ I:=by
 refine ⟨R.notHere h,?_,R.base.notHere K h,fun q=>R.vars.elim fun m z=>ns_at z.1 fun _ _ _ e _=>ne_at e h q.symm,fun x q=>(R.cells x I q).elim fun v z=>cell_at z fun _ e _=>nomatch h.symm.trans e⟩
 cases q:σ.ro I with
 |none=>rfl
 |some o=>exact (R.ro I o q).casesOn fun e _ _ _ _=>nomatch h.symm.trans e
noncomputable abbrev PTI:=(List V→(St→Prop)→St→Prop)→St→Prop
inductive PostI (C:Ctx) (A:Around) (env:Env) (σ:St) (s:Shared) (Q:List V→(St→Prop)→St→Prop) (it:Value) (s₂:Shared):Prop
 |mk (xs:List V) (G:St→Prop) (σ₂:St) (I:Addr) (K:Nat→Heap→Prop) (e:it= .ref I) (i:IterAt C A I K xs G) (n:s.heap.get? I=none) (k:K 0 s₂.heap) (R:Rel C env σ₂ s₂) (S:Step (XE C σ) σ σ₂ s s₂) (v:σ₂.vars=σ.vars) (a:Apart C env σ₂ I) (q:Q xs G σ₂):PostI C A env σ s Q it s₂
structure SoundI (C:Ctx) (k:Nat) (sc:Scope) (P:PTI) (iter:Expr):Prop where
 go: ∀(env:Env) (A:Around) (σ:St) (s:Shared) (Q:List V→(St→Prop)→St→Prop),env.scope=sc→EnvOk C env→Lim k A→Rel C env σ s→P Q σ→
  wpAny (model C.prog C.w) A (eval iter env) (fun x s₁=>wpAny (model C.prog C.w) A (pyIter x) (PostI C A env σ s Q) NoE s₁) NoE s
inductive ForOk (xs:List V) (G:St→Prop) (T:AT) (F:PT Fl) (QF:Fl→St→Prop) (σ:St):Prop
 |mk (J:Nat→St→Prop) (h0:J 0 σ) (hG: ∀i σ,i≤xs.length→J i σ→G σ) (hs: ∀i x σ,xs[i]? =some x→J i σ→T x (F (forK (J (i+1)) QF)) σ) (he: ∀σ,J xs.length σ→QF .next σ):ForOk xs G T F QF σ
noncomputable def ptFor (P:PTI) (T:AT) (B:PT Fl):PT Fl:=fun Q σ=>P (fun xs G σ₁=>ForOk xs G T B Q σ₁) σ
theorem Apart.step (h:Apart C env σ I) {s s':Shared} {σ':St} {X:Addr→Prop} (b:ItObj s.heap I) (S:Step X σ σ' s s') {env':Env} (R:Rel C env' σ' s') (n: ¬X I):Apart C env σ' I:=
 b.casesOn fun o _ e _ _ _ z=>⟨S.dom I o e h.lst,(S.rod I o e).elim (fun q=>q.trans h.ro) fun q=>q.elim fun o' q=>(R.ro I o' q.1).casesOn fun e' _ _ _ _=>(z (two_at (S.kept I o e n) e' fun w=>w▸q.2)).elim,h.base,h.loc,h.cell⟩
theorem Apart.notXE (K:CtxOk C) (h:Apart C env σ I): ¬XE C σ I:=fun x=>x.elim (fun x=>by rw[h.lst] at x;cases x) (not_tab K h.base)
theorem Apart.notXS (K:CtxOk C) (h:Apart C env σ I): ¬XS C env σ I:=fun x=>x.elim (h.notXE K) fun x=>x.elim h.loc fun x=>x.elim fun n x=>h.cell n x.1
theorem IterAt.keep {I:Addr} {W:Nat→Heap→Prop} {xs:List V} {G:St→Prop} (IA:IterAt C A I W xs G) {i:Nat} {X:Addr→Prop} {env':Env} (w:W i s.heap) (ap:Apart C env σ I) (S:Step X σ σ' s s') (n: ¬X I) (R:Rel C env' σ' s'):W i s'.heap∧Apart C env σ' I:=
 ⟨IA.frame i _ _ w fun o e=>S.kept I o e n,ap.step (IA.obj i _ w) S R n⟩
theorem iter_next (K:CtxOk C) {I:Addr} {W:Nat→Heap→Prop} {xs:List V} {G:St→Prop} (IA:IterAt C A I W xs G) {X:Addr→Prop} {i:Nat} (R':Rel C env σ' s') (ap:Apart C env σ' I) (fr:s.heap.get? I=none) (S':Step X σ σ' s s') (g:G σ') (hW:W i s'.heap) (hle:i≤xs.length) {R:Option Value→Shared→Prop}
  (f: ∀x v s₁,xs[i]? =some x→i<xs.length→RelV C s₁.heap x v→W (i+1) s₁.heap→Rel C env σ' s₁→Step X σ σ' s s₁→R (some v) s₁) (z: ∀s₁,i=xs.length→Rel C env σ' s₁→Step X σ σ' s s₁→R none s₁):wpAny (model C.prog C.w) A (pyNext (.ref I)) R NoE s':=by
 have ob:=IA.obj i _ hW
 have mv: ∀{h':Heap} {tk:Nat},GrowBut I s'.heap h'→Rel C env σ' {s' with heap:=h',toks:=tk}∧Step X σ σ' s {s' with heap:=h',toks:=tk}:=fun gb=>
  ⟨R'.other K gb ap.base ap.lst ap.loc ap.cell ob.noTup ap.ro ob.noCode,fun b o e n=>gb b o (ne_at e fr) (S'.kept b o e n),fun b o e=>(S'.there b o e).imp fun o' e'=>gb b o' (ne_at e fr) e',S'.dom,S'.mono,S'.rod⟩
 refine wpAny_mono (IA.next env σ' s' i R' g hW hle) (fun r s₃ p=>?_) fun _ _ x=>x
 cases p with
 |some x v h' tk e gb hx er rv w=>subst e;subst er;exact f x v _ hx (List.getElem?_eq_some_iff.mp hx).1 rv w (mv gb).1 (mv gb).2
 |none h' tk e gb hx er=>subst e;subst er;exact z _ (Nat.le_antisymm hle (List.getElem?_eq_none_iff.mp hx)) (mv gb).1 (mv gb).2
inductive ForI (C:Ctx) (env:Env) (σ:St) (s:Shared) (J:Nat→St→Prop) (W:Nat→Heap→Prop) (m:Nat) (I:Addr) (n:Nat) (s':Shared):Prop
 |mk (i:Nat) (σ':St) (hn:n+i=m) (hJ:J i σ') (hW:W i s'.heap) (ap:Apart C env σ' I) (R:Rel C env σ' s') (S:Step (XS C env σ) σ σ' s s'):ForI C env σ s J W m I n s'
theorem turn_lt {n i m:Nat} (h:n+i=m) (l:i<m):n-1<n∧n-1+(i+1)=m:=by
 cases n with
 |zero=>exact absurd l (Nat.not_lt.mpr (Nat.le_of_eq (h.symm.trans (Nat.zero_add i))))
 |succ n=>exact ⟨Nat.lt_succ_self n,(Nat.succ_add_eq_add_succ n i).symm.trans h⟩
theorem s_for (K:CtxOk C) {P:PTI} {T:AT} {B:PT Fl} {target iter:Expr} {body:List Stmt} {pos:Pos} (hi:SoundI C k sc P iter) (ht:SoundA C k sc T target) (hb:SoundS C k sc B body)
  (hs: ∀env x,foldedSetIterable iter env x=pure x) (hlo: ∀it v,letOwnedTupleGo target it v=pure ()):Sound1 C k sc (ptFor P T B) (.For target iter body [] pos):= .mk fun env A σ s Q hsc hE hL hR q=>
 wpAny_For (wpAny_mono (hi.go env A σ s _ hsc hE hL hR q) (fun x s₁ h=>wpAny_mono h (fun it s₂ h=>h.casesOn fun xs G σ₂ I W e IA fr w0 R2 S2 v2 ap q=>q.casesOn fun J j0 hG hst he=>e▸
  codeAny_forLoop (ForI C env σ s J W xs.length I) (fun n s' H=>H.casesOn fun i σ' hn hJ hW ap' R' S'=>
   have hle:i≤xs.length:=hn▸Nat.le_add_left _ _
   wpAny_passesOwn PassesOwn.never (iter_next K IA R' ap' fr S' (hG i σ' hle hJ) hW hle (fun x v s₃ hx hlt rv hW' R3 S3=>
    wpAny_passesOwn PassesOwn.never (wpA (ht.go env A σ' _ _ x v hsc hE hL R3 rv (hst i x σ' hx hJ)) fun u s₄ σ₄ R4 S4 q=>
     have k4:=IA.keep hW' ap' S4 (ap'.notXS K) R4
     wpAny_passesOwn PassesOwn.never (wpS (hb.go env A σ₄ s₄ _ hsc hE hL R4 q) fun f s₅ g σ₅ rf R5 S5 q=>by
      have k5:=IA.keep k4.1 k4.2 S5 (k4.2.notXS K) R5
      have SS:=(S3.transS S4).transS S5
      have lt:=turn_lt hn hlt
      cases g with
      |next=>cases (show f= .next from rf);exact ⟨n-1,lt.1,i+1,σ₅,lt.2,q,k5.1,k5.2,R5,SS⟩
      |cont=>cases (show f= .cont from rf);exact ⟨n-1,lt.1,i+1,σ₅,lt.2,q,k5.1,k5.2,R5,SS⟩
      |brk=>cases (show f= .brk from rf);exact ⟨.next,σ₅,rfl,R5,SS,q⟩
      |ret x=>exact rf.elim fun v r=>r.1▸⟨.ret x,σ₅,⟨v,rfl,r.2⟩,R5,SS,q⟩)))
    fun s₃ hi R3 S3=>wpAny_execs_nil ⟨.next,σ',rfl,R3,S3,he σ' (hi▸hJ)⟩)) xs.length ⟨0,σ₂,rfl,j0,w0,ap,R2,Step.ES S2⟩ (hlo _)) fun _ _ x=>x) fun _ _ x=>x) (hs env)
theorem iter_list (hh:A.handled=none) {a I:Addr} {xs:List V}:IterAt C A I (fun i h=>h.IsListIter I a i) xs (fun σ=>σ.lists a=some xs):=by
 have ob: ∀i h,h.IsListIter I a i→ItObj h I:=fun i h z=>z.elim fun o z=>⟨o,_,z.1,z.2.1,rfl,(fun v e=>nomatch z.2.2.symm.trans e),not_code z.2.2 fun q t e=>nomatch Option.some.inj e⟩
 refine ⟨fun i h h' x e=>x.imp fun o x=>x.imp_left (e o),ob,fun i s Q E st q=>wpAny_pyIter_listiter st q,fun env σ' s' i R g st hle=>R.at g fun items n l1 l2 hlen=>?_⟩
 have il:s'.heap.IsList a items:=⟨_,l1,rfl,_,rfl⟩
 cases hx:xs[i]? with
 |none=>exact wpAny_pyNext_list_end hh st il (Array.getElem?_eq_none (hlen▸List.getElem?_eq_none_iff.mp hx)) fun h' he=> .none h' s'.toks rfl he hx rfl
 |some x=>exact (l2.get hx).elim fun v g=>wpAny_pyNext_list_item st il (by rw[←Array.getElem?_toList];exact g.1) fun h' hit hsb=> .some x v h' s'.toks rfl (GrowBut.of_same hsb) hx rfl (RelV.kept ((GrowBut.of_same hsb).tup (ob i _ st).noTup) g.2) hit
noncomputable def ptIterL (P:PT V):PTI:=fun Q σ=>P (fun v σ₁=> ∃a xs,v= .lst a∧σ₁.lists a=some xs∧Q xs (fun σ=>σ.lists a=some xs) σ₁) σ
theorem Rel.iterObj (K:CtxOk C) (R:Rel C env σ₁ s₁) (S:Step (XE C σ) σ σ₁ s s₁) (v1:σ₁.vars=σ.vars) {ob:Obj} {xs:List V} {G:St→Prop} {St:Nat→Heap→Prop} {Q:List V→(Mine.St→Prop)→Mine.St→Prop} {tk:Nat}
  (IA:IterAt C A s₁.heap.objs.size St xs G) (w0:St 0 (s₁.heap.push ob)) (q:Q xs G σ₁):PostI C A env σ s Q (.ref s₁.heap.objs.size) {s₁ with heap:=s₁.heap.push ob,toks:=tk}:=by
 have g:Grow s₁.heap (s₁.heap.push ob):= .push _
 refine ⟨xs,G,σ₁,_,St,rfl,IA,?_,w0,R.grow K g,S.transE (Step.grow g),v1,R.free K (get_size _),q⟩
 cases z:s.heap.get? s₁.heap.objs.size with
 |none=>rfl
 |some o=>exact (S.there _ o z).elim fun o' e'=>nomatch (get_size _).symm.trans e'
theorem i_list (K:CtxOk C) {P:PT V} {e:Expr} (h:SoundE C k sc P e):SoundI C k sc (ptIterL P) e:= .mk fun env A σ s Q hsc hE hL hR q=>
 h.bind hsc hE hL hR q fun v s₁ x σ₁ r1 R1 S1 v1 q=>q.elim fun a q=>q.elim fun xs q=>by
  cases q.1
  exact r1.eL (R1.at q.2.1 fun items n l1 l2 _=>wpAny_pyIter_list ⟨_,l1,rfl,_,rfl⟩ (R1.iterObj (tk:=s₁.toks) K S1 v1 (iter_list hL.handled) ⟨_,Heap.get?_push_size _ rfl,rfl,rfl⟩ q.2.2))
end
end
section
open PySem PySem.Spec PySem.Calls PyProof.Rows PySem.W
section
variable {C:Ctx} {env:Env} {σ σ₁ σ':St} {s s₁ s':Shared} {A:Around} {k:Nat} {sc:Scope}
noncomputable def rangeVals (a c:Int) (n:Nat):List V:=(List.range n).map fun (i:Nat)=>V.int (a+(i:Int)*c)
theorem rangeVals_len {a c:Int} {n:Nat}:(rangeVals a c n).length=n:=(List.length_map _).trans List.length_range
theorem rangeVals_at {a c:Int} {n i:Nat} (h:i<n):(rangeVals a c n)[i]? =some (V.int (a+(i:Int)*c)):=by
 unfold rangeVals;rw[List.getElem?_map,List.getElem?_range h];rfl
theorem iter_range (hh:A.handled=none) {I:Addr} {a c:Int} {n:Nat}:IterAt C A I (fun i h=>IsRangeIter h I (a+(i:Nat)*c) ((n:Int)-(i:Nat)) c) (rangeVals a c n) (fun _=>True):=by
 refine ⟨fun i h h' x e=>e _ x,fun i h x=>⟨_,_,x,rfl,rfl,(fun v e=>nomatch e),not_code rfl fun q t e=>nomatch Option.some.inj e⟩,fun i s Q E st q=>wpAny_pyIter_rangeiter st q,fun env σ' s' i R _ st hle=>?_⟩
 rw[rangeVals_len] at hle
 by_cases c':i<n
 ·refine wpAny_pyNext_range_item st (Int.sub_pos_of_lt (Int.ofNat_lt.mpr c')) fun h' hit hsb=> .some _ _ h' (s'.toks+1) rfl (GrowBut.of_same hsb) (rangeVals_at c') rfl of_int ?_
  have e1:a+(i:Int)*c+c=a+((i+1:Nat):Int)*c:=by
   rw[show ((i+1:Nat):Int)=(i:Int)+1 from rfl,Int.add_mul,Int.one_mul,Int.add_assoc]
  have e2:(n:Int)-(i:Nat)-1=(n:Int)-((i+1:Nat):Int):=Int.sub_sub ..
  show IsRangeIter h' I (a+((i+1:Nat):Int)*c) ((n:Int)-((i+1:Nat):Int)) c
  rw[←e1,←e2];exact hit
 ·have c':=Nat.le_of_not_lt c'
  exact wpAny_pyNext_range_end hh st (Int.sub_nonpos_of_le (Int.ofNat_le.mpr c')) fun h' he=> .none h' s'.toks rfl he (List.getElem?_eq_none (rangeVals_len▸c')) rfl
inductive RangeOf:List V→Int→Int→Int→Prop
 |one {b:Int}:RangeOf [.int b] 0 b 1
 |two {a b:Int}:RangeOf [.int a,.int b] a b 1
 |three {a b c:Int}:RangeOf [.int a,.int b,.int c] a b c
structure rangeOk (a b c:Int):Prop where
 a0: -1000000000≤a
 a1:a≤1000000000
 b0: -1000000000≤b
 b1:b≤1000000000
 c0:1≤c
 c1:c≤1000000
theorem rangeSize_lt {a b c:Int} (h:0<c) (l:a<b):Builtin.Range.rangeSize a b c=(b-a-1)/c+1:=by delta Builtin.Range.rangeSize;rw[if_pos h,if_pos l]
theorem rangeSize_ge {a b c:Int} (h:0<c) (l:b≤a):Builtin.Range.rangeSize a b c=0:=by delta Builtin.Range.rangeSize;rw[if_pos h,if_neg (Int.not_lt.mpr l)]
theorem rangeSize_pos {a b c:Int} (h:rangeOk a b c):0≤Builtin.Range.rangeSize a b c∧Builtin.Range.rangeSize a b c≤2000000001:=by
 by_cases l:a<b
 ·rw[rangeSize_lt h.c0 l]
  have h0:0≤b-a-1:=Int.le_sub_right_of_add_le (Int.sub_pos_of_lt l)
  have h1:=h.a0
  have h2:=h.b1
  have h7:=Int.ediv_le_self c h0
  exact ⟨Int.add_nonneg (Int.ediv_nonneg h0 (Int.le_of_lt h.c0)) (by decide),by lia⟩
 ·rw[rangeSize_ge h.c0 (Int.not_lt.mp l)];decide
theorem fitsL {a:Int} (h: -3000000000≤a) (h':a≤3000000000):Builtin.Range.rangeFitsLong a=true:=by
 rw[Builtin.Range.rangeFitsLong,decide_eq_true (Int.le_trans (by decide) h),decide_eq_true (Int.lt_of_le_of_lt h' (by decide))];rfl
theorem range_small {a b c:Int} (h:rangeOk a b c):Builtin.Range.small a b c=true:=by
 have r:=rangeSize_pos h
 have c0:(0:Int)≤c:=Int.le_trans (by decide) h.c0
 unfold Builtin.Range.small
 rw[if_pos (show c>0 from h.c0),fitsL (Int.le_trans (by decide) h.a0) (Int.le_trans h.a1 (by decide)),fitsL (Int.le_trans (by decide) h.b0) (Int.le_trans h.b1 (by decide)),fitsL (Int.le_trans (by decide) c0) (Int.le_trans h.c1 (by decide)),fitsL (Int.le_trans (by decide) r.1) (Int.le_trans r.2 (by decide)),fitsL (a:=b+(c-1)) (by have:=h.b0;have:=h.c0;lia) (by have:=h.b1;have:=h.c1;lia),Bool.or_true]
 rfl
theorem range_call (K:CtxOk C) (T0:TopOk C) {xs:List V} {vs:List Value} {a b c:Int} {Q:Value→Shared→Prop} (r:RelVs C s.heap xs vs) (e:RangeOf xs a b c) (ok:rangeOk a b c)
  (h: ∀t u v tk,Q (.ref s.heap.objs.size) {s with heap:=s.heap.push {cls:= .type "range",data:= .fields #[.int a t,.int b u,.int c v]},toks:=tk}):wpAny (model C.prog C.w) A (call (.type "range") vs) Q NoE s:=by
 induction e with
 |one=>exact r.e1 fun v r=>r.eI fun t=>call_range_1 (h _ _ _ _)
 |two=>exact r.e2 fun v w r1 r2=>r1.eII r2 fun t u=>call_range_2 (h _ _ _ _)
 |three=>exact r.eC fun v _ r1 r=>r.e2 fun w z r2 r3=>r1.eI fun t=>r2.eII r3 fun u x=>call_range_3 (Int.ne_of_gt ok.c0) (h _ _ _ _) (.inl (PyProof.noPylong_small (Int.ofNat_lt.mp (by rw[Int.natAbs_of_nonneg (Int.le_trans (by decide) ok.c0)];exact Int.lt_of_le_of_lt ok.c1 (by decide)))))
inductive RgI (Z:Int→Int→Int→St→Prop) (xs:List V) (σ:St):Prop
 |mk (a b c:Int) (e:RangeOf xs a b c) (ok:rangeOk a b c) (q:Z a b c σ):RgI Z xs σ
theorem range_eval (K:CtxOk C) (T0:TopOk C) {P:PT V} {Ps:List (PT V)} {e:Expr} {es:List Expr} {np pos:Pos} {mg mb:Str→Option Value} (hg:Globs C mg mb) (hmiss:mg "range" =none) (hv:mb "range" =some (.type "range"))
  (hl:sc.names.lookup ("range" :Str)=some .globalImplicit) (ha:SoundEs C k sc (P::Ps) (e::es)) (hs:env.scope=sc) (hE:EnvOk C env) (hL:Lim k A) (hR:Rel C env σ s) {Q:Value→Shared→Prop} {Z:Int→Int→Int→St→Prop}
  (q:ptArgs (P::Ps) (RgI Z) σ) (h: ∀σ₁ (s₁ s₂:Shared) a b c,Rel C env σ₁ s₂→Step (XE C σ) σ σ₁ s s₂→σ₁.vars=σ.vars→Z a b c σ₁→rangeOk a b c→(∃t u v,IsRange s₂.heap s₁.heap.objs.size a b c t u v)→Q (.ref s₁.heap.objs.size) s₂):
  wpAny (model C.prog C.w) A (eval (.Call (.Name "range" np) (e::es) [] pos) env) Q NoE s:=
 wpAny_Call_NameR (s_glob_builtin hg hmiss hv (by unfold Env.kindOf;rw[hs];exact hl) hE hR (callWith_type1 (wpL (args_sound K ha hs hE hL hR q) fun vs s₁ xs σ₁ r1 R1 S1 v1 q=>q.casesOn fun a b c e1 e2 q=>
  range_call K T0 r1 e1 e2 fun t u v tk=>h σ₁ s₁ _ a b c (R1.grow K (tk:=tk) (Grow.push _)) (S1.transE (Step.grow (Grow.push _))) v1 q e2 ⟨t,u,v,IsRange.new _ _ _ _ _ _ _⟩) (ha.hd env) (noStar ha.2 pos env)) (by decide))
noncomputable def ptRange (Ps:List (PT V)):PTI:=fun Q σ=>ptArgs Ps (RgI fun a b c σ₁=>Q (rangeVals a c (Builtin.Range.rangeSize a b c).toNat) (fun _=>True) σ₁) σ
theorem i_range (K:CtxOk C) (T0:TopOk C) {P:PT V} {Ps:List (PT V)} {e:Expr} {es:List Expr} {np pos:Pos} {mg mb:Str→Option Value} (hg:Globs C mg mb) (hmiss:mg "range" =none) (hv:mb "range" =some (.type "range"))
  (hl:sc.names.lookup ("range" :Str)=some .globalImplicit) (ha:SoundEs C k sc (P::Ps) (e::es)):SoundI C k sc (ptRange (P::Ps)) (.Call (.Name "range" np) (e::es) [] pos):= .mk fun env A σ s Q hs hE hL hR q=>
 range_eval K T0 hg hmiss hv hl ha hs hE hL hR q fun σ₁ s₁ s₂ a b c R1 S1 v1 q ok z=>z.elim fun t z=>z.elim fun u z=>z.elim fun v z=>
  wpAny_pyIter_range z (range_small ok) (R1.iterObj (tk:=s₂.toks) K S1 v1 (iter_range hL.handled) (by
   show Heap.get? _ _=_
   rw[Heap.get?_push_size _ rfl,Int.toNat_of_nonneg (rangeSize_pos ok).1,show a+((0:Nat):Int)*c=a by simp,show Builtin.Range.rangeSize a b c-((0:Nat):Int)=Builtin.Range.rangeSize a b c from Int.sub_zero _]) q)
noncomputable def ptLRange (Ps:List (PT V)):PT V:=fun Q σ=>ptArgs Ps (RgI fun a b c σ₁=>Builtin.Range.rangeSize a b c≤100000∧ ∀l,σ₁.lists l=none→Q (.lst l) (setL σ₁ l (rangeVals a c (Builtin.Range.rangeSize a b c).toNat))) σ
theorem RelVs.of_get {h:Heap} {xs:List V} {vs:List Value} (e:xs.length=vs.length) (f: ∀(i:Nat) x v,xs[i]? =some x→vs[i]? =some v→RelV C h x v):RelVs C h xs vs:=by
 induction xs generalizing vs with
 |nil=>
  cases vs with
  |nil=>exact RelVs.nil
  |cons=>cases e
 |cons x xs ih=>
  cases vs with
  |nil=>cases e
  |cons v vs=>exact RelVs.cons (f 0 x v rfl rfl) (ih (Nat.succ.inj e) fun i y w a b=>f (i+1) y w a b)
theorem itemsInts {h:Heap} {a c:Int} {acc:Array Value} {n:Nat} (x:ItemsOf (fun i v=> ∃t,v= .int (a+i*c) t) acc n):RelVs C h (rangeVals a c n) acc.toList:=by
 refine RelVs.of_get (rangeVals_len.trans x.1.symm) fun i x' v h1 h2=>?_
 have hlt:i<n:=Nat.lt_of_lt_of_eq (List.getElem?_eq_some_iff.mp h1).1 rangeVals_len
 cases (rangeVals_at hlt).symm.trans h1
 exact x.2 i v (by rw[←Array.getElem?_toList];exact h2)
theorem s_lrange (K:CtxOk C) (T0:TopOk C) {P:PT V} {Ps:List (PT V)} {e:Expr} {es:List Expr} {np pos np' pos':Pos} {mg mb:Str→Option Value} (hg:Globs C mg mb) (hmiss:mg "range" =none) (hv:mb "range" =some (.type "range"))
  (hl:sc.names.lookup ("range" :Str)=some .globalImplicit) (hmiss':mg "list" =none) (hv':mb "list" =some (.type "list")) (hl':sc.names.lookup ("list" :Str)=some .globalImplicit) (ha:SoundEs C k sc (P::Ps) (e::es))
  (he: ∀es' env,starEach (Expr.Call (.Name "range" np) (e::es) [] pos::es') env=(false,eval (.Call (.Name "range" np) (e::es) [] pos) env)::starEach es' env):
  SoundE C k sc (ptLRange (P::Ps)) (.Call (.Name "list" np') [.Call (.Name "range" np) (e::es) [] pos] [] pos'):= .mk fun env A σ s Q hs hE hL hR q=>
 wpAny_Call_NameR (s_glob_builtin hg hmiss' hv' (by unfold Env.kindOf;rw[hs];exact hl') hE hR (callWith_type1 (spliced_cons (range_eval K T0 hg hmiss hv hl ha hs hE hL hR q fun σ₁ s₁ s₂ a b c R1 S1 v1 q ok z=>z.elim fun t z=>z.elim fun u z=>z.elim fun v z=>
  have n0:=Int.toNat_of_nonneg (rangeSize_pos ok).1
  spliced_nil (call_list_range (n:=(Builtin.Range.rangeSize a b c).toNat) hL.handled z (range_small ok) n0.symm (by have:=q.1;lia) fun h' tk' acc c' g2 l2 hi=>
   have N:=R1.newL K (ys:=rangeVals a c (Builtin.Range.rangeSize a b c).toNat) (items:=acc) (tk:=tk') (get_size _) ⟨c',l2⟩ (itemsInts hi) g2
   ⟨_,_,of_lst,N.2.1,S1.transE N.2.2,v1,q.2 _ N.1⟩))) (he [] env) rfl) (by decide))
theorem iter_rev (hh:A.handled=none) {a I:Addr} {xs:List V}:IterAt C A I (fun i h=>i≤xs.length∧h.IsRevIter I a ((xs.length:Int)-1-(i:Int))) xs.reverse (fun σ=>σ.lists a=some xs):=by
 have ob: ∀i h,(i≤xs.length∧h.IsRevIter I a ((xs.length:Int)-1-(i:Int)))→ItObj h I:=fun i h z=>z.2.elim fun o z=>⟨o,_,z.1,z.2.1,rfl,(fun v e=>nomatch z.2.2.symm.trans e),not_code z.2.2 fun q t e=>nomatch Option.some.inj e⟩
 refine ⟨fun i h h' x e=>⟨x.1,x.2.imp fun o x=>x.imp_left (e o)⟩,ob,fun i s Q E st q=>wpAny_pyIter_revIter st.2 q,fun env σ' s' i R g st _=>R.at g fun items n l1 l2 hlen=>?_⟩
 have il:s'.heap.IsList a items:=⟨_,l1,rfl,_,rfl⟩
 by_cases c:i<xs.length
 ·have hj:xs.length-1-i<xs.length:=Nat.lt_of_le_of_lt (Nat.sub_le _ _) (Nat.sub_lt (Nat.zero_lt_of_lt c) (by decide))
  have ej:((xs.length-1-i:Nat):Int)=(xs.length:Int)-1-(i:Int):=by lia
  have hx:=(List.getElem?_reverse c).trans (List.getElem?_eq_getElem hj)
  refine (l2.get (List.getElem?_eq_getElem hj)).elim fun v g=>wpAny_pyNext_rev_item (ej▸st.2) il (by rw[←Array.getElem?_toList];exact g.1) fun h' hit hsb=> .some _ v h' s'.toks rfl (GrowBut.of_same hsb) hx rfl (RelV.kept ((GrowBut.of_same hsb).tup (ob i _ st).noTup) g.2) ⟨c,?_⟩
  rw[show (xs.length:Int)-1-((i+1:Nat):Int)=((xs.length-1-i:Nat):Int)-1 by rw[ej];exact (Int.sub_sub ((xs.length:Int)-1) (i:Int) 1).symm];exact hit
 ·have e:i=xs.length:=Nat.le_antisymm st.1 (Nat.le_of_not_lt c)
  refine wpAny_pyNext_rev_end hh (l:=a) ?_ fun h' he=> .none h' s'.toks rfl he (List.getElem?_eq_none (by rw[List.length_reverse];exact Nat.le_of_not_lt c)) rfl
  rw[show (-1:Int)=(xs.length:Int)-1-(i:Int) by rw[e];lia];exact st.2
noncomputable def ptIterR (P:PT V):PTI:=fun Q σ=>ptArgs [P] (fun l σ₁=> ∃a xs,l=[.lst a]∧σ₁.lists a=some xs∧Q xs.reverse (fun σ=>σ.lists a=some xs) σ₁) σ
theorem i_rev (K:CtxOk C) {P:PT V} {e:Expr} {np pos:Pos} {mg mb:Str→Option Value} (hg:Globs C mg mb) (hmiss:mg "reversed" =none) (hv:mb "reversed" =some (.type "reversed"))
  (hl:sc.names.lookup ("reversed" :Str)=some .globalImplicit) (ha:SoundEs C k sc [P] [e]):SoundI C k sc (ptIterR P) (.Call (.Name "reversed" np) [e] [] pos):= .mk fun env A σ s Q hs hE hL hR q=>
 wpAny_Call_NameR (s_glob_builtin hg hmiss hv (by unfold Env.kindOf;rw[hs];exact hl) hE hR (callWith_type1 (wpL (args_sound K ha hs hE hL hR q) fun vs s₁ l σ₁ r1 R1 S1 v1 q=>q.elim fun a q=>q.elim fun xs q=>by
  cases q.1
  exact r1.e1 fun v r2=>r2.eL (R1.at q.2.1 fun items n l1 l2 hlen=>call_reversed_list ⟨_,l1,rfl,_,rfl⟩ (wpAny_pyIter_revIter ⟨_,Heap.get?_push_size _ rfl,rfl,rfl⟩
   (R1.iterObj (tk:=s₁.toks) K S1 v1 (iter_rev hL.handled) ⟨Nat.zero_le _,_,Heap.get?_push_size _ rfl,rfl,by show Data.fields _=_;rw[hlen];simp⟩ q.2.2)))) (ha.hd env) rfl) (by decide))
end
end
section
open PySem PySem.Spec PySem.Calls PyProof.Rows PySem.W
section
variable {C:Ctx} {env:Env} {σ σ₁ σ₂ σ':St} {s s₁ s₂ s':Shared} {A:Around} {k:Nat} {sc:Scope}
noncomputable def strIter (x:Str):List V:=x.cps.toList.map fun c=>V.str ⟨#[c]⟩
theorem strIter_len {x:Str}:(strIter x).length=x.cps.size:=(List.length_map _).trans Array.length_toList
theorem iter_strT {I:Addr} {x:Str} {t:Tok} {ty:String} (hty:okIter ty=true) (W:Walks C.prog C.w A I [I] [I] x.cps.size (SignAt x) (fun i h=>h.IsStrIter I ty x t i)):IterAt C A I (fun i h=>h.IsStrIter I ty x t i) (strIter x) (fun _=>True):=by
 refine ⟨fun i h h' z e=>z.imp fun o z=>z.imp_left (e o),fun i h z=>z.elim fun o z=>⟨o,ty,z.1,z.2.1,hty,(fun v e=>nomatch z.2.2.symm.trans e),not_code z.2.2 fun q t e=>nomatch Option.some.inj e⟩,fun i s Q E st q=>W.self i s Q E st q,fun env σ' s' i R _ st hle=>?_⟩
 have gb: ∀{h':Heap},(∀b o,b∉[I]→s'.heap.get? b=some o→h'.get? b=some o)→GrowBut I s'.heap h':=fun f b o n e=>f b o (fun z=>n (List.mem_singleton.mp z)) e
 by_cases c:i<x.cps.size
 ·exact W.item i s' _ _ c st fun v h' tk hp st' hk=>hp.elim fun c' hp=>hp.elim fun u hp=> .some (.str ⟨#[c']⟩) v h' tk rfl (gb hk) (by unfold strIter;rw[List.getElem?_map,Array.getElem?_toList,hp.1];rfl) rfl (hp.2▸of_str) st'
 ·have e:i=x.cps.size:=Nat.le_antisymm (strIter_len (x:=x)▸hle) (Nat.le_of_not_lt c)
  subst e
  exact W.done s' _ _ st fun h' tk hk=> .none h' tk rfl (gb hk) (List.getElem?_eq_none (Nat.le_of_eq strIter_len)) rfl
theorem iter_str (hh:A.handled=none) {I:Addr} {x:Str} {t:Tok}:IterAt C A I (fun i h=>h.IsStrIter I (strIterType x) x t i) (strIter x) (fun _=>True):=by
 unfold strIterType
 split
 ·exact iter_strT rfl (Walks.strAscii hh I x t)
 ·exact iter_strT rfl (Walks.strWide hh I x t)
noncomputable def ptIterS (P:PT V):PTI:=fun Q σ=>P (fun v σ₁=> ∃x,v= .str x∧Q (strIter x) (fun _=>True) σ₁) σ
theorem i_str (K:CtxOk C) {P:PT V} {e:Expr} (h:SoundE C k sc P e):SoundI C k sc (ptIterS P) e:= .mk fun env A σ s Q hsc hE hL hR q=>
 h.bind hsc hE hL hR q fun v s₁ d σ₁ r1 R1 S1 v1 q=>q.elim fun x q=>by
  cases q.1
  exact r1.eS fun t=>wpAny_pyIter_strU (R1.iterObj (tk:=s₁.toks) K S1 v1 (iter_str hL.handled) ⟨_,Heap.get?_push_size _ rfl,rfl,rfl⟩ q.2)
inductive PostF (C:Ctx) (env:Env) (σ:St) (s:Shared) (fr:Addr→Prop) (Q:St→Prop) (u:Unit) (s':Shared):Prop
 |mk (σ':St) (R:Rel C env σ' s') (S:Step (fun b=>XE C σ b∨fr b) σ σ' s s') (Z:Step (XS C env σ) σ σ' s s') (q:Q σ'):PostF C env σ s fr Q u s'
structure SoundAF (C:Ctx) (k:Nat) (sc:Scope) (own:List Str) (T:AT) (t:Expr):Prop where
 go: ∀(env:Env) (A:Around) (σ:St) (s:Shared) (Q:St→Prop) (x:V) (v:Value) (fr:Addr→Prop),env.scope=sc→EnvOk C env→Lim k A→fr env.locals→(∀x∈own,∀c,env.cells.lookup x=some c→fr c)→Rel C env σ s→RelV C s.heap x v→T x Q σ→
  wpAny (model C.prog C.w) A (assign t env v) (PostF C env σ s fr Q) NoE s
theorem wpF {t:Sem Unit} {s₀:Shared} {fr:Addr→Prop} {Q:St→Prop} {R:Unit→Shared→Prop} (h:wpAny (model C.prog C.w) A t (PostF C env σ s₀ fr Q) NoE s)
  (f: ∀u s₁ σ₁,Rel C env σ₁ s₁→Step (fun b=>XE C σ b∨fr b) σ σ₁ s₀ s₁→Step (XS C env σ) σ σ₁ s₀ s₁→Q σ₁→R u s₁):wpAny (model C.prog C.w) A t R NoE s:=
 wpAny_mono h (fun u s₁ p=>p.casesOn fun σ₁ R S Z q=>f u s₁ σ₁ R S Z q) fun _ _ x=>x
theorem Step.wide {X Y:Addr→Prop} (h:Step X σ σ' s s') (w: ∀b,X b→Y b):Step Y σ σ' s s':=⟨fun b o e n=>h.kept b o e fun x=>n (w b x),h.there,h.dom,h.mono,h.rod⟩
theorem Step.transF {fr:Addr→Prop} (h₁:Step (fun b=>XE C σ b∨fr b) σ σ₁ s s₁) (h₂:Step (fun b=>XE C σ₁ b∨fr b) σ₁ σ₂ s₁ s₂):Step (fun b=>XE C σ b∨fr b) σ σ₂ s s₂:=
 h₁.trans h₂ (fun _ x=>x) fun b o e y=>y.imp (XE_back h₁ e) id
theorem Step.EF {fr:Addr→Prop} (h:Step (XE C σ) σ σ₁ s s₁):Step (fun b=>XE C σ b∨fr b) σ σ₁ s s₁:=h.wide fun _ x=> .inl x
theorem Step.but {X:Addr→Prop} {a:Addr} {h':Heap} {tk:Nat} {σ':St} (hx:X a) (hl:σ'.lists=σ.lists) (hr:σ'.ro=σ.ro) (g:GrowBut a s.heap h') (t: ∃o,h'.get? a=some o):Step X σ σ' s {s with heap:=h',toks:=tk}:=
 ⟨fun b o e n=>g b o (fun q=>n (q▸hx)) e,there_at g t,fun _ _ _ e=>by rw[hl];exact e,fun _ e=>by rw[hl];exact e,fun _ _ _=> .inl (by rw[hr])⟩
theorem af_name (K:CtxOk C) {x:Str} {pos:Pos} (i:Nat) (hi:sc.names[i]? =some (x,.local)) (hl:sc.names.lookup x=some .local):SoundAF C k sc [] (atName i) (.Name x pos):= .mk fun env A σ s Q d v fr hs hE hL f1 _ hR r q=>by
 subst hs
 exact hR.vars.elim fun m hm=>wpAny_assign_Name (wpAny_storeName_local hl hm.1 (fun h' hn hsb=>have T:=hR.store_local K hE (tk:=s.toks+1) hm.1 hi r hn hsb
  ⟨_,T.1,Step.but (.inr f1) rfl rfl (GrowBut.of_same hsb) (ns_at hn fun o _ _ e _=>⟨o,e⟩),T.2,q⟩) (by rw[hE.kind];rfl))
theorem af_cell (K:CtxOk C) {x:Str} {pos:Pos} (i:Nat) (hi:sc.names[i]? =some (x,.cell)) (hl:sc.names.lookup x=some .cell):SoundAF C k sc [x] (atName i) (.Name x pos):= .mk fun env A σ s Q d v fr hs hE hL f1 f2 hR r q=>by
 subst hs
 exact (hE.own x hl).elim fun c hc=>(hR.cells x c hc).elim fun v₀ hz=>wpAny_assign_Name (wpAny_storeName_cell hE.kind hl hc hz fun h' hn hsb=>have T:=hR.store_cell K hE (tk:=s.toks) hi hl hc r hn hsb
  ⟨_,T.1,Step.but (.inr (f2 x (List.mem_singleton.mpr rfl) c hc)) rfl rfl (GrowBut.of_same hsb) (cell_at hn fun o e _=>⟨o,e⟩),T.2,q⟩)
theorem two_of {α:Type} {l:List α} (h:l.length=2): ∃a b,l=[a,b]:=by
 match l,h with
 |[a,b],_=>exact ⟨a,b,rfl⟩
theorem af_pair (K:CtxOk C) {x y:Str} {px py pos:Pos} {n:Nat} (i j:Nat) (hi:sc.names[i]? =some (x,.local)) (hl:sc.names.lookup x=some .local) (hj:sc.names[j]? =some (y,.local)) (hl':sc.names.lookup y=some .local):
  SoundAF C k sc [] (atTup [atName i,atName j]) (.Tuple [.Name x px,.Name y py] n pos):= .mk fun env A σ s Q d v fr hs hE hL f1 f2 hR r q=>q.elim fun l q=>by
 cases q.1
 refine r.eT fun a items t1 t2=>?_
 have hlen:items.size=2:=(Array.length_toList.symm.trans t2.len.symm).trans q.2.1
 show wpAny _ A (do standAt pos;unpack (.ref a) (assignEach [.Name x px,.Name y py] env)) _ _ s
 refine wpAny_bind (wpAny_standAt (unpack_tuple hL.handled t1 hlen.symm rfl fun h' he=>?_))
 have g:Grow s.heap h':=Grow.ext he
 have q1:=q.2.2
 have t2:=g.rels t2
 refine (two_of q.2.1).elim fun d1 q=>q.elim fun d2 q=>?_
 subst q
 refine t2.e2 fun v1 v2 q2 q3=>?_
 show wpAny _ A (do holding [v2] (assign (.Name x px) env v1);assignInOrder [assign (.Name y py) env] [v2]) _ _ _
 refine wpAny_bind (wpAny_holding (wpF ((af_name K i hi hl).go env A σ _ _ d1 v1 fr hs hE hL f1 f2 (hR.grow K (tk:=s.toks) g) q2 q1) fun u s₂ σ₂ R2 S2 Z2 q=>?_))
 show wpAny _ A (do holding [] (assign (.Name y py) env v2);pure ()) _ _ _
 exact wpAny_bind (wpAny_holding (wpF ((af_name K j hj hl').go env A σ₂ _ _ d2 v2 fr hs hE hL f1 f2 R2 (Z2.relS K (hR.grow K (tk:=s.toks) g) q3) q) fun u s₃ σ₃ R3 S3 Z3 q=>
  wpAny_pure ⟨σ₃,R3,(Step.transF (Step.EF (Step.grow (tk:=s.toks) g)) S2).transF S3,(Step.transS (Step.ES (Step.grow (tk:=s.toks) g)) Z2).transS Z3,q⟩))
noncomputable def relS (scope sc:Scope):Scope:={scope with names:=scope.names.map fun p=>if (p.2== .free&&sc.kind== .function&&sc.names.lookup p.1==some .cell)=true then (p.1,.cell) else p}
noncomputable def clo (env:Env):List (Str×NameKind)→List (Str×Addr)→List (Str×Addr)
 |[],acc=>acc
 |p::r,acc=>if p.2= .free then clo env r ((p.1,(env.cells.lookup p.1).getD 0)::acc) else clo env r acc
theorem clo_free {env:Env} {p:Str×NameKind} {r:List (Str×NameKind)} {acc:List (Str×Addr)} (h:p.2= .free):clo env (p::r) acc=clo env r ((p.1,(env.cells.lookup p.1).getD 0)::acc):=if_pos h
theorem clo_other {env:Env} {p:Str×NameKind} {r:List (Str×NameKind)} {acc:List (Str×Addr)} (h: ¬p.2= .free):clo env (p::r) acc=clo env r acc:=if_neg h
theorem clo_eq (env:Env) (scope:Scope) (h: ∀x∈scope.names,x.2= .free→(env.cells.lookup x.1).isSome=true):closureFor scope env=pure (clo env scope.names []):=by
 have key: ∀(f:Str×NameKind→List (Str×Addr)→Sem (ForInStep (List (Str×Addr)))) (hf: ∀p cs,f p cs=if p.2== .free then (do let c ←cellOf env p.1;pure (.yield ((p.1,c)::cs))) else pure (.yield cs)),
   ∀(names:List (Str×NameKind)) (acc:List (Str×Addr)),(∀x∈names,x.2= .free→(env.cells.lookup x.1).isSome=true)→forIn names acc f=pure (clo env names acc):=by
  intro f hf names
  induction names with
  |nil=>intro acc _;rw[List.forIn_nil];rfl
  |cons p r ih=>
   intro acc hh
   have hr:=fun x hx=>hh x (List.mem_cons_of_mem _ hx)
   rw[List.forIn_cons,hf]
   by_cases c:p.2= .free
   ·refine (Option.isSome_iff_exists.mp (hh p List.mem_cons_self c)).elim fun a ha=>?_
    have:cellOf env p.1=pure a:=by unfold cellOf;rw[ha]
    rw[if_pos (beq_iff_eq.mpr c),clo_free c,this,ha,pure_bind,pure_bind]
    exact ih _ hr
   ·rw[if_neg (fun z=>c (beq_iff_eq.mp z)),clo_other c,pure_bind]
    exact ih _ hr
 unfold closureFor
 refine (congrArg (· >>= fun cs=>pure cs) (key _ (fun p cs=>rfl) scope.names [] h)).trans (by rw[pure_bind])
theorem clo_mem {env:Env} {names:List (Str×NameKind)} {acc:List (Str×Addr)} {n:Str} {c:Addr} (h:(n,c)∈clo env names acc):(n,c)∈acc∨((n,NameKind.free)∈names∧c=(env.cells.lookup n).getD 0):=by
 induction names generalizing acc with
 |nil=>exact .inl h
 |cons p r ih=>
  by_cases q:p.2= .free
  ·rw[clo_free q] at h
   exact (ih h).elim (fun h=>(List.mem_cons.mp h).elim (fun e=> .inr (by cases e;exact ⟨q▸List.mem_cons_self,rfl⟩)) .inl) fun h=> .inr ⟨List.mem_cons_of_mem _ h.1,h.2⟩
  ·rw[clo_other q] at h
   exact (ih h).imp id fun h=>⟨List.mem_cons_of_mem _ h.1,h.2⟩
theorem clo_acc {env:Env} {names:List (Str×NameKind)} {acc:List (Str×Addr)} {x:Str×Addr} (h:x∈acc):x∈clo env names acc:=by
 induction names generalizing acc with
 |nil=>exact h
 |cons p r ih=>
  by_cases q:p.2= .free
  ·rw[clo_free q];exact ih (List.mem_cons_of_mem _ h)
  ·rw[clo_other q];exact ih h
theorem clo_has {env:Env} {names:List (Str×NameKind)} {acc:List (Str×Addr)} {n:Str} (h:(n,NameKind.free)∈names):(n,(env.cells.lookup n).getD 0)∈clo env names acc:=by
 induction names generalizing acc with
 |nil=>cases h
 |cons p r ih=>
  by_cases q:p.2= .free
  ·rw[clo_free q];exact (List.mem_cons.mp h).elim (fun e=>clo_acc (by rw[←e];exact List.mem_cons_self)) fun h=>ih h
  ·rw[clo_other q];exact (List.mem_cons.mp h).elim (fun e=>(q (e▸rfl)).elim) fun h=>ih h
theorem clo_apart {env:Env} (hE:EnvOk C env) {names:List (Str×NameKind)} {acc:List (Str×Addr)} (nd:(names.map (·.1)).Nodup) (hh: ∀x∈names,x.2= .free→(env.cells.lookup x.1).isSome=true)
  (h:acc.Pairwise (fun x y=>x.2≠y.2)) (h2: ∀x∈acc,env.cells.lookup x.1=some x.2∧x.1∉names.map (·.1)):(clo env names acc).Pairwise fun x y=>x.2≠y.2:=by
 induction names generalizing acc with
 |nil=>exact h
 |cons p r ih=>
  have nd:=List.nodup_cons.mp nd
  have h3: ∀x∈acc,env.cells.lookup x.1=some x.2∧x.1∉r.map (·.1):=fun x hx=>⟨(h2 x hx).1,fun z=>(h2 x hx).2 (List.mem_cons_of_mem _ z)⟩
  have hr:=fun x hx=>hh x (List.mem_cons_of_mem _ hx)
  by_cases q:p.2= .free
  ·refine (Option.isSome_iff_exists.mp (hh p List.mem_cons_self q)).elim fun a ha=>?_
   rw[clo_free q,ha]
   refine ih nd.2 hr (List.pairwise_cons.mpr ⟨fun y hy (e:a=y.2)=>?_,h⟩) fun x hx=>(List.mem_cons.mp hx).elim (fun e=>e▸⟨ha,nd.1⟩) (h3 x)
   have:=h2 y hy
   exact this.2 (cells_inj hE (PySem.mem_of_lookup ha) (e▸PySem.mem_of_lookup this.1)▸List.mem_cons_self)
  ·rw[clo_other q];exact ih nd.2 hr h h3
structure CellsE (h:Heap) (lo:Nat) (names:List (Str×NameKind)) (acc cs:List (Str×Addr)):Prop where
 each: ∀n c,(n,c)∈cs→(n,c)∈acc∨(h.IsCell c none∧lo≤c∧(n,NameKind.cell)∈names)
 apart:cs.Pairwise fun x y=>x.2≠y.2
theorem cellsE (names pre:List (Str×NameKind)) (h:Heap) (lo:Nat) (acc₀ acc:List (Str×Addr)) (x:CellsE h lo pre acc₀ acc) (hb: ∀x∈acc,x.2<h.objs.size) (hlo:lo≤h.objs.size):
  CellsE (pushCells h names) lo (pre++names) acc₀ (cellsFrom h.objs.size names acc):=by
 induction names generalizing pre h acc with
 |nil=>rw[List.append_nil];exact x
 |cons p r ih=>
  rw[show pre++p::r=(pre++[p])++r from (List.append_cons pre p r)]
  unfold pushCells cellsFrom
  by_cases q:(p.2==NameKind.cell)=true
  ·rw[if_pos q,if_pos q]
   have lt: ∀y∈acc,y.2<(h.push {cls:= .type "cell",data:= .cell none}).objs.size:=fun y hy=>by rw[Heap.size_push];exact Nat.lt_succ_of_lt (hb y hy)
   have:=ih (pre++[p]) (h.push {cls:= .type "cell",data:= .cell none}) ((p.1,h.objs.size)::acc)
    ⟨fun n c hm=>(List.mem_cons.mp hm).elim (fun e=> .inr (by cases e;exact ⟨⟨_,Heap.get?_push_size _ rfl,rfl⟩,hlo,eq_of_beq q▸List.mem_append_right _ (List.mem_singleton.mpr rfl)⟩))
      fun hm=>(x.each n c hm).imp id fun y=>⟨y.1.keeps fun b o e=>Heap.get?_push_of_some _ e,y.2.1,List.mem_append_left _ y.2.2⟩,
     List.pairwise_cons.mpr ⟨fun y hy (e:h.objs.size=y.2)=>Nat.lt_irrefl _ (e▸hb y hy),x.apart⟩⟩
    (fun y hy=>(List.mem_cons.mp hy).elim (fun e=>by subst e;rw[Heap.size_push];exact Nat.lt_succ_self _) (lt y)) (by rw[Heap.size_push];exact Nat.le_succ_of_le hlo)
   rwa [Heap.size_push] at this
  ·rw[if_neg q,if_neg q]
   exact ih (pre++[p]) h acc ⟨fun n c hm=>(x.each n c hm).imp id fun y=>⟨y.1,y.2.1,List.mem_append_left _ y.2.2⟩,x.apart⟩ hb hlo
end
end
section
open PySem PySem.Spec PySem.Calls PyProof.Rows PySem.W
section
variable {C:Ctx} {env:Env} {σ σ₁ σ₂ σ':St} {s s₁ s₂ s':Shared} {A:Around} {k:Nat} {sc:Scope}
theorem compLoop_any {prog:Program} {w:World} {R:Result→Shared→Prop} {elt target iter:Expr} {ifs:List Expr} {scope:Scope} {pos:Pos} {it acc:Value} {env:Env} (I:Nat→Shared→Prop)
  (turn: ∀n s,I n s→wpAny (model prog w) A (pyNext it) (fun r s₁=>match r with
   |none=>R (.ok .next) s₁
   |some v=>wpAny (model prog w) A (letOwnedTupleGo target it v) (fun _ s₂=>wpAny (model prog w) A (assign target env v) (fun _ s₃=>
     wpAny (model prog w) A (forIn ifs true fun c r=>if r=true then do let ok ←isTrue c env (eval c env);pure (ForInStep.yield ok) else pure (ForInStep.yield r)) (fun ok s₄=>
      if ok=true then wpAny (model prog w) A (eval elt env) (fun x s₅=>wpAny (model prog w) A (call (.builtin "list.append") [acc,x]) (fun _ s₆=> ∃m,m<n∧I m s₆) NoE s₅) NoE s₄
      else ∃m,m<n∧I m s₄) NoE s₃) NoE s₂) NoE s₁) NoE s)
  (n:Nat) (h:I n s):codeAny (model prog w) A (.compLoop (.ListComp elt [⟨target,iter,ifs,0⟩] scope pos) 0 it acc env) R s:=by
 refine codeAny_loop rfl I (fun n s hI=>?_) n h
 show wpAny _ A ((compTurn (.ListComp elt [⟨target,iter,ifs,0⟩] scope pos) 0 it acc env).onRaise (fun x=>do noteFrame x env;theTreesLotGoes x)) _ _ s
 refine wpAny_noted (wpAny_mono (Q:=_) (E:=NoE) ?_ (fun _ _ x=>x) fun _ _ x=>x.elim)
 rw[compTurn_list]
 refine wpAny_bind (wpAny_standAt (wpAny_bind (wpAny_mono (turn n s hI) (fun r s₁ h₁=>?_) fun _ _ h'=>h')))
 cases r with
 |none=>exact wpAny_pure h₁
 |some v=>exact wpAny_bind (wpAny_mono h₁ (fun _ s₁' h₁'=>wpAny_bind (wpAny_mono h₁' (fun _ s₂ h₂=>wpAny_bind (wpAny_mono h₂ (fun ok s₃ h₃=>by
   cases ok with
   |false=>exact wpAny_pure ⟨rfl,h₃⟩
   |true=>exact wpAny_bind (wpAny_bind (wpAny_mono h₃ (fun x s₄ h₄=>wpAny_bind (wpAny_mono h₄ (fun _ s₅ h₅=>wpAny_pure (wpAny_pure ⟨rfl,h₅⟩)) fun _ _ h'=>h')) fun _ _ h'=>h'))) fun _ _ h'=>h')) fun _ _ h'=>h')) fun _ _ h'=>h')
inductive SoundT (C:Ctx) (k:Nat) (sc:Scope):PT Bool→List Expr→Prop
 |none:SoundT C k sc (fun Q σ=>Q true σ) []
 |one {P:PT Bool} {c:Expr} (h:SoundB C k sc P c):SoundT C k sc P [c]
theorem SoundT.run {P:PT Bool} {ifs:List Expr} (h:SoundT C k sc P ifs) {Q:Bool→St→Prop} (hs:env.scope=sc) (hE:EnvOk C env) (hL:Lim k A) (hR:Rel C env σ s) (q:P Q σ):
  wpAny (model C.prog C.w) A (forIn ifs true fun c r=>if r=true then do let ok ←isTrue c env (eval c env);pure (ForInStep.yield ok) else pure (ForInStep.yield r)) (PostB C env σ s Q) NoE s:=by
 cases h with
 |none=>exact wpAny_tests_nil (PostB.now hR q)
 |one h=>exact wpAny_tests_one (h.run hs hE hL hR q)
structure CompOk (scope sc:Scope) (mp:Nat→Option Nat) (own:List Str):Prop where
 kind:scope.kind= .function
 sck:sc.kind= .function
 names: ∀x∈scope.names,x.2= .local→scope.names.lookup x.1=some .local
 nd:(scope.names.map (·.1)).Nodup
 free: ∀x∈scope.names,x.2= .free→sc.names.lookup x.1=some .cell
 mp: ∀j i,mp j=some i→ ∃x,scope.names[j]? =some (x,.free)∧sc.names[i]? =some (x,.cell)
 own: ∀x∈own,(x,NameKind.cell)∈scope.names
noncomputable def compSt (mp:Nat→Option Nat) (σ:St) (D:Addr) (ys:List V):St:=⟨fun j=>(mp j).bind σ.vars,fun b=>if b=D then some ys else σ.lists b,σ.ro⟩
theorem relS_names {scope sc:Scope} {n:Str} {kd:NameKind} (h:(n,kd)∈(relS scope sc).names):(n,kd)∈scope.names∨(kd= .cell∧(n,NameKind.free)∈scope.names):=by
 refine (List.mem_map.mp h).elim fun p h=>?_
 have h2:=h.2
 by_cases c:(p.2== .free&&sc.kind== .function&&sc.names.lookup p.1==some .cell)=true
 ·rw[if_pos c] at h2
  cases h2
  exact .inr ⟨rfl,eq_of_beq (Bool.and_eq_true_iff.mp (Bool.and_eq_true_iff.mp c).1).1▸h.1⟩
 ·rw[if_neg c] at h2
  exact .inl (h2▸h.1)
theorem relS_keys (scope sc:Scope):(relS scope sc).names.map (·.1)=scope.names.map (·.1):=by
 unfold relS
 rw[List.map_map]
 refine List.map_congr_left fun x hx=>?_
 by_cases c:(x.2== .free&&sc.kind== .function&&sc.names.lookup x.1==some .cell)=true
 ·show (if _=true then (x.1,NameKind.cell) else x).1=x.1
  rw[if_pos c]
 ·show (if _=true then (x.1,NameKind.cell) else x).1=x.1
  rw[if_neg c]
theorem relS_get {scope sc:Scope} {mp:Nat→Option Nat} {own:List Str} (O:CompOk scope sc mp own) {j:Nat} {x:Str} (h:scope.names[j]? =some (x,.free)):(relS scope sc).names[j]? =some (x,.cell):=by
 unfold relS
 rw[List.getElem?_map,h]
 have:=O.free (x,.free) (List.mem_of_getElem? h) rfl
 simp only[Option.map_some,O.sck,this]
 rfl
structure CFrame (C:Ctx) (cenv:Env) (τ:St) (own:List Str) (s:Shared) (h':Heap):Prop where
 ok:EnvOk C cenv
 rel:Rel C cenv τ {s with heap:=h'}
 own: ∀x∈own,∀c,cenv.cells.lookup x=some c→s.heap.objs.size≤c
 ns: ∃m,h'.Ns cenv.locals m
 grow:Grow s.heap h'
theorem comp_frame (K:CtxOk C) {scope:Scope} {mp:Nat→Option Nat} {own:List Str} (O:CompOk scope sc mp own) (hs:env.scope=sc) (hE:EnvOk C env) (hR:Rel C env σ s) {D:Addr} {ys:List V} (hD: ∀xs,σ.lists D=some xs→xs=ys) {items:Array Value}
  (hDl:s.heap.PlainList D items) (hDy:RelVs C s.heap ys items.toList) (hDb:C.base.get? D=none) (hDr:σ.ro D=none) {cells:List (Str×Addr)} {cenv:Env} {h':Heap}
  (hc:cells=cellsFrom (s.heap.objs.size+1) scope.names (clo env scope.names [])) (hcells:cenv.cells=cells) (hloc:cenv.locals=s.heap.objs.size) (hscope:cenv.scope=relS scope sc) (hglob:cenv.globals=env.globals) (hbi:cenv.builtins=env.builtins)
  (hh:h'=pushCells (s.heap.push {cls:= .type "dict",data:= .dict #[]}) scope.names):
  CFrame C cenv (compSt mp σ D ys) own s h':=by
 subst hs
 have g:Grow s.heap h':=fun b o e=>by rw[hh];exact pushCells_keeps _ _ b o (Heap.get?_push_of_some _ e)
 have fresh: ∀a,s.heap.objs.size≤a→s.heap.get? a=none:=fun a ha=>by unfold Heap.get?;rw[Array.getElem?_eq_none ha]
 have outer: ∀x∈scope.names,x.2= .free→ ∃c,env.cells.lookup x.1=some c:=fun x hx hf=>hE.own x.1 (O.free x hx hf)
 have cloIn: ∀n c,(n,c)∈clo env scope.names []→(n,NameKind.free)∈scope.names∧env.cells.lookup n=some c:=fun n c h=>
  (clo_mem h).elim (fun h=>nomatch h) fun h=>(outer _ h.1 rfl).elim fun a (ha:env.cells.lookup n=some a)=>⟨h.1,by rw[h.2,ha];rfl⟩
 have CE:CellsE h' (s.heap.objs.size+1) scope.names (clo env scope.names []) cells:=by
  have:=cellsE scope.names [] (s.heap.push {cls:= .type "dict",data:= .dict #[]}) (s.heap.objs.size+1) (clo env scope.names []) (clo env scope.names [])
   ⟨fun n c h=> .inl h,clo_apart hE O.nd (fun x hx hf=>Option.isSome_iff_exists.mpr (outer x hx hf)) List.Pairwise.nil (fun x hx=>nomatch hx)⟩ (fun x hx=>by rw[Heap.size_push];exact (hR.cells x.1 x.2 (cloIn x.1 x.2 hx).2).elim fun v z=>Nat.lt_succ_of_lt z.lt) (by rw[Heap.size_push];exact Nat.le_refl _)
  rw[Heap.size_push] at this
  rw[hh,hc]
  exact this
 have apart: ∀{n:Str} {P:Prop},(n,NameKind.free)∈scope.names→(n,NameKind.cell)∈scope.names→P:=fun h1 h2=>
  (List.getElem?_of_mem h1).elim fun i hi=>(List.getElem?_of_mem h2).elim fun j hj=>by
   have:=names_inj O.nd hi hj
   subst this
   exact nomatch hi.symm.trans hj
 have each: ∀n c,cells.lookup n=some c→(env.cells.lookup n=some c∧(n,NameKind.free)∈scope.names)∨(h'.IsCell c none∧s.heap.objs.size+1≤c∧(n,NameKind.cell)∈scope.names):=fun n c h=>
  (CE.each n c (PySem.mem_of_lookup h)).imp (fun h=>(cloIn n c h).symm) id
 have getFree: ∀n,(n,NameKind.free)∈scope.names→ ∃c,cells.lookup n=some c∧env.cells.lookup n=some c:=fun n hn=>by
  have h2:((clo env scope.names []).lookup n).isSome=true:=by
   cases q:(clo env scope.names []).lookup n with
   |some _=>rfl
   |none=>
    have:=List.lookup_eq_none_iff.mp q _ (clo_has (env:=env) (acc:=[]) hn)
    simp at this
  exact (Option.isSome_iff_exists.mp (by rw[hc];exact cellsFrom_keep h2:(cells.lookup n).isSome=true)).imp fun c hc'=>(each n c hc').elim (fun h=>⟨hc',h.1⟩) fun h=>apart hn h.2.2
 have getOwn: ∀n,(n,NameKind.cell)∈scope.names→ ∃c,cells.lookup n=some c∧s.heap.objs.size+1≤c:=fun n hn=>
  (Option.isSome_iff_exists.mp (by rw[hc];exact cellsFrom_has hn:(cells.lookup n).isSome=true)).imp fun c hc'=>(each n c hc').elim (fun h=>apart h.2 hn) fun h=>⟨hc',h.2.1⟩
 have baseNone: ∀a,s.heap.get? a=none→C.base.get? a=none:=fun a ha=>hR.base.notHere K ha
 have hns:h'.Ns cenv.locals (fun _=>none):=by
  rw[hloc,hh]
  exact (Heap.Ns.new s.heap (.type "dict")).keeps (pushCells_keeps _ _)
 have hkd: ∀x,cenv.scope.names.lookup x=some .cell→ ∃c,cells.lookup x=some c:=fun x hx=>
  (relS_names (PySem.mem_of_lookup (hscope▸hx))).elim (fun h=>(getOwn x h).imp fun _ z=>z.1) fun h=>(getFree x h.2).imp fun _ z=>z.1
 have R1:Rel C env σ {s with heap:=h'}:=hR.grow K (tk:=s.toks) g
 have lD: ∀{a:Addr},a≠D→(compSt mp σ D ys).lists a=σ.lists a:=fun q=>if_neg q
 subst hcells
 refine ⟨⟨by rw[hscope];exact O.kind,by rw[hglob];exact hE.globals,by rw[hbi];exact hE.builtins,by rw[hscope,relS_keys];exact O.nd,by rw[hloc];exact baseNone _ (get_size _),CE.apart,fun x c hx=>?_,hkd⟩,⟨R1.base,R1.bare,⟨_,hns,fun j v hv=>?_⟩,fun a xs e=>?_,fun x c e=>?_,fun a o e=>?_⟩,fun x hx c e=>?_,⟨_,hns⟩,g⟩
 ·exact (CE.each x c hx).elim (fun h=>hE.cfresh x c (PySem.mem_of_lookup (cloIn x c h).2)) fun h=>baseNone c (fresh c (Nat.le_of_succ_le h.2.1))
 ·have hv:(mp j).bind σ.vars=some v:=hv
  cases hm:mp j with
  |none=>rw[hm] at hv;cases hv
  |some i=>
   rw[hm] at hv
   exact (O.mp j i hm).elim fun x n=>R1.vars.elim fun m hm'=>(hm'.2 i v hv).on n.2 fun val e2 e3 e4=>(e4 (by decide)).elim fun c cc=>(getFree x (List.mem_of_getElem? n.1)).elim fun c' d=>
    ⟨x,.cell,by rw[hscope];exact relS_get O n.1,val,e2,(fun q=>nomatch q),fun _=>⟨c,Option.some.inj (d.2.symm.trans cc.1)▸d.1,cc.2⟩⟩
 ·by_cases q:a=D
  ·subst q
   cases (if_pos rfl).symm.trans e
   exact ⟨items,g.list hDl,g.rels hDy,hDb⟩
  ·exact R1.lists a xs ((lD q).symm.trans e)
 ·exact (each x c e).elim (fun h=>R1.cells x c h.1) fun h=>⟨_,h.1⟩
 ·exact (hR.ro a o e).casesOn fun hz n nc nl b=>⟨g _ _ hz,fun q=>ne_at hz (get_size _) (q.trans hloc),fun x q=>(each x a q).elim (fun h=>nc x h.1) fun h=>(nomatch (fresh a (Nat.le_of_succ_le h.2.1)).symm.trans hz),
   (lD fun q=>by subst q;exact nomatch hDr.symm.trans e).trans nl,b⟩
 ·exact (getOwn x (O.own x hx)).elim fun c' h=>Option.some.inj (h.1.symm.trans e)▸Nat.le_of_succ_le h.2
inductive CompGo (xs:List V) (G:St→Prop) (T:AT) (Tt:PT Bool) (E:PT V) (mp:Nat→Option Nat) (Q:V→St→Prop) (σ σ₁:St):Prop
 |mk (J:Addr→Nat→List V→St→Prop) (h0: ∀D,σ₁.lists D=none→J D 0 [] (compSt mp σ₁ D []))
  (hG: ∀D i ys σc,σ₁.lists D=none→i≤xs.length→J D i ys σc→σc.lists D=some ys∧G σc)
  (hs: ∀D i ys x σc,σ₁.lists D=none→xs[i]? =some x→J D i ys σc→T x (fun σ₁=>Tt (fun ok σ₂=>if ok=true then E (fun y σ₃=>σ₃.lists D=some ys∧ys.length+1≤sizeLine∧J D (i+1) (ys++[y]) (setL σ₃ D (ys++[y]))) σ₂ else J D (i+1) ys σ₂) σ₁) σc)
  (he: ∀D ys σc,σ₁.lists D=none→J D xs.length ys σc→Q (.lst D) ⟨σ.vars,σc.lists,σ.ro⟩):CompGo xs G T Tt E mp Q σ σ₁
noncomputable def ptComp (P:PTI) (T:AT) (Tt:PT Bool) (E:PT V) (mp:Nat→Option Nat):PT V:=fun Q σ=>P (fun xs G σ₁=>CompGo xs G T Tt E mp Q σ σ₁) σ
noncomputable abbrev FrX (C:Ctx) (s:Shared) (σ:St) (b:Addr):Prop:=XE C σ b∨s.heap.get? b=none
inductive CompI (C:Ctx) (cenv:Env) (σ:St) (s:Shared) (J:Nat→List V→St→Prop) (W:Nat→Heap→Prop) (m:Nat) (I:Addr) (n:Nat) (s':Shared):Prop
 |mk (i:Nat) (ys:List V) (σ':St) (hn:n+i=m) (hJ:J i ys σ') (hW:W i s'.heap) (ap:Apart C cenv σ' I) (R:Rel C cenv σ' s') (S:Step (FrX C s σ) σ σ' s s'):CompI C cenv σ s J W m I n s'
theorem comp_loop (K:CtxOk C) {own:List Str} {T:AT} {Tt:PT Bool} {E:PT V} {elt target iter:Expr} {ifs:List Expr} {scope:Scope} {pos:Pos} {I D:Addr} {W:Nat→Heap→Prop} {xs:List V} {G:St→Prop} {cenv:Env} (IA:IterAt C A I W xs G)
  (ht:SoundAF C k sc own T target) (htest:SoundT C k sc Tt ifs) (he:SoundE C k sc E elt) (hsc:cenv.scope=sc) (hEc:EnvOk C cenv) (hL:Lim k A) (J:Nat→List V→St→Prop) (fr:s.heap.get? I=none) (fr1:s.heap.get? cenv.locals=none)
  (fr2: ∀x∈own,∀c,cenv.cells.lookup x=some c→s.heap.get? c=none) (hG: ∀i ys σc,i≤xs.length→J i ys σc→σc.lists D=some ys∧G σc)
  (hst: ∀i ys x σc,xs[i]? =some x→J i ys σc→T x (fun σ₁=>Tt (fun ok σ₂=>if ok=true then E (fun y σ₃=>σ₃.lists D=some ys∧ys.length+1≤sizeLine∧J (i+1) (ys++[y]) (setL σ₃ D (ys++[y]))) σ₂ else J (i+1) ys σ₂) σ₁) σc)
  {RR:Result→Shared→Prop} (fin: ∀ys σc s',J xs.length ys σc→Rel C cenv σc s'→Step (FrX C s σ) σ σc s s'→RR (.ok .next) s')
  (j0:J 0 [] σ₁) (w0:W 0 s₁.heap) (ap:Apart C cenv σ₁ I) (R:Rel C cenv σ₁ s₁) (S:Step (FrX C s σ) σ σ₁ s s₁):
  codeAny (model C.prog C.w) A (.compLoop (.ListComp elt [⟨target,iter,ifs,0⟩] scope pos) 0 (.ref I) (.ref D) cenv) RR s₁:=
 compLoop_any (CompI C cenv σ s J W xs.length I) (fun n s' H=>H.casesOn fun i ys σ' hn hJ hW ap R S=>
  have hle:i≤xs.length:=hn▸Nat.le_add_left _ _
  iter_next K IA R ap fr S (hG i ys σ' hle hJ).2 hW hle (fun x v s₃ hx hlt rv hW' R3 S3=>
   (IA.obj (i+1) _ hW').casesOn fun o1 n1 e1 c1 k1 _ _=>letGo_ok e1 c1 k1 (wpF (ht.go cenv A σ' _ _ x v (fun b=>s.heap.get? b=none) hsc hEc hL fr1 fr2 R3 rv (hst i ys x σ' hx hJ)) fun u s₄ σ₄ R6 S6 Z6 q=>
    have k6:=IA.keep hW' ap Z6 (ap.notXS K) R6
    wpB (htest.run hsc hEc hL R6 q) fun ok s₅ σ₅ R7 S7 v7 q=>
     have k7:=IA.keep k6.1 k6.2 S7 (k6.2.notXE K) R7
     have SS7:=(S3.transF S6).transF S7.EF
     have lt:=turn_lt hn hlt
     onB q (fun q=>wpE (he.run hsc hEc hL R7 q) fun y s₆ dy σ₆ r8 R8 S8 v8 q=>
      have k8:=IA.keep k7.1 k7.2 S8 (k7.2.notXE K) R8
      wpE (m_sound K (m:= .append) (Q:=fun _ τ=>J (i+1) (ys++[dy]) τ) hEc R8 of_lst (RelVs.cons r8 RelVs.nil) (.append q.1 q.2.1 q.2.2)) fun w s₇ d9 σ₇ r9 R9 S9 v9 q=>
       have k9:=IA.keep k8.1 k8.2 S9 (k8.2.notXE K) R9
       ⟨n-1,lt.1,i+1,ys++[dy],σ₇,lt.2,q,k9.1,k9.2,R9,(SS7.transF S8.EF).transF S9.EF⟩)
      fun q=>⟨n-1,lt.1,i+1,ys,σ₅,lt.2,q,k7.1,k7.2,R7,SS7⟩))
   fun s₃ hi R3 S3=>fin ys σ' s₃ (hi▸hJ) R3 S3) xs.length ⟨0,[],σ₁,rfl,j0,w0,ap,R,S⟩
inductive CompEnd (C:Ctx) (σ:St) (env:Env) (s:Shared) (Q:V→St→Prop) (D L:Addr) (s':Shared):Prop
 |mk (σc:St) (m:Str→Option Value) (R:Rel C env ⟨σ.vars,σc.lists,σ.ro⟩ s') (S:Step (XE C σ) σ ⟨σ.vars,σc.lists,σ.ro⟩ s s') (n:s'.heap.Ns L m) (f:s.heap.get? L=none) (b:C.base.get? L=none) (l:σc.lists L=none) (q:Q (.lst D) ⟨σ.vars,σc.lists,σ.ro⟩):CompEnd C σ env s Q D L s'
theorem comp_core (K:CtxOk C) {scope:Scope} {mp:Nat→Option Nat} {own:List Str} (O:CompOk scope sc mp own) {P:PTI} {T:AT} {Tt:PT Bool} {E:PT V} {elt target iter:Expr} {ifs:List Expr} {pos pos':Pos}
  (hi:SoundI C k sc P iter) (ht:SoundAF C k (relS scope sc) own T target) (htest:SoundT C k (relS scope sc) Tt ifs) (he:SoundE C k (relS scope sc) E elt) (hf: ∀env x,foldedSetIterable iter env x=pure x)
  (hs:env.scope=sc) (hE:EnvOk C env) (hL:Lim k A) (hR:Rel C env σ s) {Q:V→St→Prop} (q:ptComp P T Tt E mp Q σ) {use:Option (Value→Sem Unit)} {QQ:Value→Shared→Prop}
  (fin: ∀D L s',CompEnd C σ env s Q D L s'→compPost (model C.prog C.w) A NoE use QQ (.ref D) L (.ok .next) s'):
  wpAny (model C.prog C.w) A (comprehension (.ListComp elt [⟨target,iter,ifs,0⟩] scope pos) scope env pos' (newList []) false (eval iter env) use) QQ NoE s:=by
 have hfr: ∀x∈scope.names,x.2= .free→(env.cells.lookup x.1).isSome=true:=fun x hx hf=>Option.isSome_iff_exists.mpr (hE.own x.1 (by rw[hs];exact O.free x hx hf))
 refine wpAny_comprehension_free (g:=⟨target,iter,ifs,0⟩) (gs:=[]) rfl (hf env) (clo_eq env scope hfr) O.kind O.names ?_
 refine wpAny_mono (hi.go env A σ s _ hs hE hL hR q) (fun x s₁ h=>wpAny_mono h (fun it s₂ h=>h.casesOn fun xs G σ₂ I W e IA fr w0 R2 S2 v2 ap q=>?_) fun _ _ x=>x) fun _ _ x=>x
 subst e
 -- the new list
 refine wpAny_newList ?_ (by decide)
 generalize hD:s₂.heap.objs.size=D
 have hDn:s₂.heap.get? D=none:=hD▸get_size _
 generalize h3:s₂.heap.push {cls:= .type "list",data:= .seq ([]:List Value).toArray}=h₃
 have g3:Grow s₂.heap h₃:=h3▸ .push _
 have R3:Rel C env σ₂ {s₂ with heap:=h₃}:=R2.grow K (tk:=s₂.toks) g3
 have apD:=R2.free K hDn
 have hDl:h₃.PlainList D #[]:=⟨_,by rw[←h3,←hD];exact Heap.get?_push_size _ rfl⟩
 -- the new frame
 unfold newFunctionEnv
 refine wpAny_bind (wpAny_alloc ?_)
 refine wpAny_bind (wpAny_layCells _ (fun name kind cells=>by cases hkc:kind==NameKind.cell<;>simp[hkc]) _ _ _ _ ?_)
 simp only[Option.isSome_some,if_true,Heap.size_push]
 refine wpAny_bind (wpAny_of_eq (a:=PUnit.unit) (by rfl) (wpAny_pure ?_))
 generalize hce:({scope:=relabel scope env,locals:=h₃.objs.size,globals:=env.globals,cells:=cellsFrom (h₃.objs.size+1) scope.names (clo env scope.names []),qual:=env.qual,func:=none,code:=env.code,frame:=env.frame,builtins:=env.builtins}:Env)=cenv
 have e1:cenv.scope=relS scope sc:=by rw[←hce,←hs];rfl
 have e2:cenv.locals=h₃.objs.size:=by rw[←hce]
 have F:=comp_frame K O hs hE R3 (D:=D) (ys:=[]) (fun xs e=>nomatch apD.lst.symm.trans e) hDl RelVs.nil apD.base apD.ro (cells:=cenv.cells) (cenv:=cenv) (by rw[←hce]) rfl e2 e1 (by rw[←hce]) (by rw[←hce]) rfl
 rw[←e2]
 clear hce h3
 generalize hh4:pushCells (h₃.push {cls:= .type "dict",data:= .dict #[]}) scope.names=h₄ at F⊢
 have g4:Grow s₂.heap h₄:=fun b o e=>F.grow b o (g3 b o e)
 have gone: ∀{a:Addr},s₂.heap.get? a=none→s.heap.get? a=none:=fun {a} n=>by
  cases e:s.heap.get? a with
  |none=>rfl
  |some o=>exact (S2.there a o e).elim fun o' e'=>nomatch n.symm.trans e'
 have freshL: ∀a,h₃.objs.size≤a→s.heap.get? a=none:=fun a ha=>gone (by
  cases e:s₂.heap.get? a with
  |none=>rfl
  |some o=>exact absurd (Heap.lt_size (g3 _ _ e)) (Nat.not_lt.mpr ha))
 have wI:W 0 h₄:=IA.frame 0 _ _ w0 fun o e=>g4 _ _ e
 refine (IA.obj 0 _ w0).casesOn fun oI nI hoI _ _ _ _=>?_
 have apI:Apart C cenv (compSt mp σ₂ D []) I:=⟨(if_neg (ne_at hoI hDn)).trans ap.lst,ap.ro,ap.base,fun q=>Nat.lt_irrefl _ ((q.trans e2)▸Heap.lt_size (g3 _ _ hoI)),fun x q=>(F.rel.cells x I q).elim fun v z=>(IA.obj 0 _ wI).noCell z⟩
 have S4:Step (FrX C s σ) σ (compSt mp σ₂ D []) s {s₂ with heap:=h₄}:=by
  refine ⟨fun b o e n=>g4 b o (S2.kept b o e fun x=>n (.inl x)),fun b o e=>(S2.there b o e).imp fun o' e'=>g4 _ _ e',fun a o e l=>(if_neg (ne_at e (gone hDn))).trans (S2.dom a o e l),fun a e=>?_,S2.rod⟩
  by_cases q:a=D
  ·exact congrArg Option.isSome (if_pos q)
  ·exact (congrArg Option.isSome (if_neg q)).trans (S2.mono a e)
 have fr1:s.heap.get? cenv.locals=none:=by rw[e2];exact freshL _ (Nat.le_refl _)
 refine q.casesOn fun J h0 hG hst hend=>?_
 have loop:=comp_loop (iter:=iter) (scope:=scope) (pos:=pos) K IA ht htest he e1 F.ok hL (J D) fr fr1 (fun x hx c h=>freshL c (F.own x hx c h)) (fun i ys σc=>hG D i ys σc apD.lst) (fun i ys x σc=>hst D i ys x σc apD.lst)
  (RR:=compPost (model C.prog C.w) A NoE use QQ (.ref D) cenv.locals) (fun ys σc s' hJ R' S'=>R'.vars.elim fun m hm=>
   have S'':Step (XE C σ) σ σc s s':=⟨fun b o e n=>S'.kept b o e fun x=>x.elim n fun z=>(nomatch z.symm.trans e),S'.there,S'.dom,S'.mono,S'.rod⟩
   fin D cenv.locals s' ⟨σc,m,hR.after K hE R'.g S'',⟨S''.kept,S''.there,S''.dom,S''.mono,fun _ _ _=> .inl rfl⟩,hm.1,fr1,F.ok.fresh,R'.notNs hm.1,v2▸hend D ys σc apD.lst hJ⟩) (h0 D apD.lst) wI apI F.rel S4
 exact codeAny_compStart_list loop (wpAny_mono (E:=NoE) (IA.self 0 _ _ _ wI loop) (fun _ _ x=>x) fun _ _ x=>x.elim)
theorem comp_leave (K:CtxOk C) {L:Addr} {m:Str→Option Value} {h':Heap} {tk:Nat} {τ:St} (hE:Rel C env σ s) (f:s.heap.get? L=none) (b:C.base.get? L=none) (l:τ.lists L=none) (v:τ.ro=σ.ro) (n:s'.heap.Ns L m) (hsb:Heap.SameBut L s'.heap h') (R:Rel C env τ s') {X:Addr→Prop} (S:Step X σ τ s s'):
  Rel C env τ {s' with heap:=h',toks:=tk}∧Step X σ τ s {s' with heap:=h',toks:=tk}:=
 have gb:=GrowBut.of_same hsb
 have F:=hE.free K f
 ⟨R.other K gb b l F.loc F.cell (fun items t=>tup_ne_ns t n) (v▸F.ro) (ns_not_code n),fun b o e n=>gb b o (ne_at e f) (S.kept b o e n),fun b o e=>(S.there b o e).imp fun o' e'=>gb b o' (ne_at e f) e',S.dom,S.mono,S.rod⟩
theorem s_comp (K:CtxOk C) {scope:Scope} {mp:Nat→Option Nat} {own:List Str} (O:CompOk scope sc mp own) {P:PTI} {T:AT} {Tt:PT Bool} {E:PT V} {elt target iter:Expr} {ifs:List Expr} {pos:Pos}
  (hi:SoundI C k sc P iter) (ht:SoundAF C k (relS scope sc) own T target) (htest:SoundT C k (relS scope sc) Tt ifs) (he:SoundE C k (relS scope sc) E elt) (hf: ∀env x,foldedSetIterable iter env x=pure x):
  SoundE C k sc (ptComp P T Tt E mp) (.ListComp elt [⟨target,iter,ifs,0⟩] scope pos):= .mk fun env A σ s Q hs hE hL hR q=>by
 rw[eval_ListComp]
 exact comp_core K O hi ht htest he hf hs hE hL hR q fun D L s' H=>H.casesOn fun σc m R' S' hn f1 f2 f3 q=>⟨m,hn,fun h' hsb=>
  have T:=comp_leave K (tk:=s'.toks) (τ:=⟨σ.vars,σc.lists,σ.ro⟩) hR f1 f2 f3 rfl hn hsb R' S'
  ⟨.lst D,⟨σ.vars,σc.lists,σ.ro⟩,of_lst,T.1,T.2,rfl,q⟩⟩
noncomputable def ptAsgComp (i:Nat) (P:PT V):PT Fl:=fun Q σ=>P (fun v σ'=>Q .next (setV σ' i v)) σ
theorem s_asgComp (K:CtxOk C) {scope:Scope} {mp:Nat→Option Nat} {own:List Str} (O:CompOk scope sc mp own) {P:PTI} {T:AT} {Tt:PT Bool} {E:PT V} {elt target iter:Expr} {ifs:List Expr} {pos:Pos} {y:Str} {py spos:Pos} (i:Nat)
  (hyi:sc.names[i]? =some (y,.local)) (hyl:sc.names.lookup y=some .local) (hi:SoundI C k sc P iter) (ht:SoundAF C k (relS scope sc) own T target) (htest:SoundT C k (relS scope sc) Tt ifs) (he:SoundE C k (relS scope sc) E elt) (hf: ∀env x,foldedSetIterable iter env x=pure x)
  (hsw: ∀env:Env,env.scope=sc→swapsWith (.ListComp elt [⟨target,iter,ifs,0⟩] scope pos) (some (.Name y py)) spos.line env=pure true):
  Sound1 C k sc (ptAsgComp i (ptComp P T Tt E mp)) (.Assign [.Name y py] (.ListComp elt [⟨target,iter,ifs,0⟩] scope pos) spos):= .mk fun env A σ s Q hs hE hL hR q=>by
 have hsw':=hsw env hs
 rw[exec_Assign_Name_used _ _ _ _ hsw']
 refine wpAny_bind (wpAny_standAt (wpAny_bind ?_))
 show wpAny _ A (do let _ ←comprehension (.ListComp elt [⟨target,iter,ifs,0⟩] scope pos) scope env _ (newList []) false (eval iter env) (some (assign (.Name y py) env));pure ()) _ _ s
 refine wpAny_bind (comp_core (Q:=fun v σ'=>Q .next (setV σ' i v)) K O hi ht htest he hf hs hE hL hR q fun D L s' H=>H.casesOn fun σc m R' S' hn f1 f2 f3 q=>?_)
 subst hs
 refine R'.vars.elim fun m2 hm2=>wpAny_assign_Name (wpAny_storeName_local hyl hm2.1 (fun h₁ hn₁ hsb₁=>?_) (by rw[hE.kind];rfl))
 have N:=R'.store_local K hE (tk:=s'.toks+1) hm2.1 hyi of_lst hn₁ hsb₁
 have hnL:h₁.Ns L m:=hn.sameBut hsb₁ (hR.free K f1).loc
 exact ⟨m,hnL,fun h' hsb=>wpAny_pure (wpAny_pure (have T:=comp_leave K (tk:=s'.toks+1) (τ:=setV ⟨σ.vars,σc.lists,σ.ro⟩ i (.lst D)) hR f1 f2 f3 rfl hnL hsb N.1 (Step.transES S' N.2);⟨.next,_,rfl,T.1,T.2,q⟩))⟩
end
end
section
open PySem PySem.Spec PySem.Calls PyProof.Rows PySem.W
noncomputable def nth {α:Type} (d:α):List α→Nat→α
 |[],_=>d
 |a::_,0=>a
 |_::r,n+1=>nth d r n
noncomputable def st (n:Nat):Stmt:=nth (.Pass ⟨0,0,0,0⟩) PySem.Challenge.pw_uc0050_01.main.body n
noncomputable def fdAll:Stmt→Arguments×List Stmt×Scope
 | .FunctionDef _ a b _ _ _ s .. =>(a,b,s)
 |_=>({posonlyargs:=[],args:=[],vararg:=none,kwonlyargs:=[],kw_defaults:=[],kwarg:=none,defaults:=[]},[],{kind:= .module,names:=[],isGenerator:=false,isCoroutine:=false})
noncomputable def fdArgs (s:Stmt):Arguments:=(fdAll s).1
noncomputable def fdBody (s:Stmt):List Stmt:=(fdAll s).2.1
noncomputable def fdScope (s:Stmt):Scope:=(fdAll s).2.2
inductive FnOb (C:Ctx) (name:Str) (n:Nat) (a:Addr):Prop
 |mk (o:Obj) (pm cd doc:Value) (h1:C.base.get? a=some o) (h2:o.data= .func (docDef name (fdArgs (st n)) (fdBody (st n)) (fdScope (st n)) pm cd doc)) (h3:CodeOk C cd name):FnOb C name n a
structure FnAt (C:Ctx) (mg:Str→Option Value) (name:Str) (n:Nat) (a:Addr):Prop where
 g:mg name=some (.ref a)
 ob:FnOb C name n a
 nt:a∉C.tabs
structure Wk (C:Ctx) where
 K:CtxOk C
 T0:TopOk C
 Z:ScrOk C
 mg:Str→Option Value
 mb:Str→Option Value
 gl:Globs C mg mb
 mods: ∃o,C.base.get? sysModules=some o
 modn:sysModules∉C.tabs
 m_len:mg (Str.ofString "len")=none
 b_len:mb (Str.ofString "len")=some (.builtin "len")
 m_ord:mg (Str.ofString "ord")=none
 b_ord:mb (Str.ofString "ord")=some (.builtin "ord")
 m_chr:mg (Str.ofString "chr")=none
 b_chr:mb (Str.ofString "chr")=some (.builtin "chr")
 m_divmod:mg (Str.ofString "divmod")=none
 b_divmod:mb (Str.ofString "divmod")=some (.builtin "divmod")
 m_min:mg (Str.ofString "min")=none
 b_min:mb (Str.ofString "min")=some (.builtin "min")
 m_range:mg (Str.ofString "range")=none
 b_range:mb (Str.ofString "range")=some (.type "range")
 m_list:mg (Str.ofString "list")=none
 b_list:mb (Str.ofString "list")=some (.type "list")
 m_reversed:mg (Str.ofString "reversed")=none
 b_reversed:mb (Str.ofString "reversed")=some (.type "reversed")
 m_enumerate:mg (Str.ofString "enumerate")=none
 b_enumerate:mb (Str.ofString "enumerate")=some (.type "enumerate")
 t__DIV_LIMIT:Tok
 g__DIV_LIMIT:mg (Str.ofString "_DIV_LIMIT")=some (.int 4000 t__DIV_LIMIT)
 t__MAX_STRING_SIZE:Tok
 g__MAX_STRING_SIZE:mg (Str.ofString "_MAX_STRING_SIZE")=some (.int 40 t__MAX_STRING_SIZE)
 t__MOVE_COST:Tok
 g__MOVE_COST:mg (Str.ofString "_MOVE_COST")=some (.int 2 t__MOVE_COST)
 t__CASE_COST:Tok
 g__CASE_COST:mg (Str.ofString "_CASE_COST")=some (.int 1 t__CASE_COST)
 a__div2n1n:Addr
 f__div2n1n:FnAt C mg (Str.ofString "_div2n1n") 2 a__div2n1n
 a__div3n2n:Addr
 f__div3n2n:FnAt C mg (Str.ofString "_div3n2n") 3 a__div3n2n
 a__int2digits:Addr
 f__int2digits:FnAt C mg (Str.ofString "_int2digits") 4 a__int2digits
 a__digits2int:Addr
 f__digits2int:FnAt C mg (Str.ofString "_digits2int") 5 a__digits2int
 a__divmod_pos:Addr
 f__divmod_pos:FnAt C mg (Str.ofString "_divmod_pos") 6 a__divmod_pos
 a_int_divmod:Addr
 f_int_divmod:FnAt C mg (Str.ofString "int_divmod") 7 a_int_divmod
 a__iter_escaped_chars:Addr
 f__iter_escaped_chars:FnAt C mg (Str.ofString "_iter_escaped_chars") 9 a__iter_escaped_chars
 a__strip_quoted_realnames:Addr
 f__strip_quoted_realnames:FnAt C mg (Str.ofString "_strip_quoted_realnames") 10 a__strip_quoted_realnames
 a_in_table_b1:Addr
 f_in_table_b1:FnAt C mg (Str.ofString "in_table_b1") 13 a_in_table_b1
 a_map_table_b3:Addr
 f_map_table_b3:FnAt C mg (Str.ofString "map_table_b3") 15 a_map_table_b3
 a__substitution_cost:Addr
 f__substitution_cost:FnAt C mg (Str.ofString "_substitution_cost") 20 a__substitution_cost
 a__levenshtein_distance:Addr
 f__levenshtein_distance:FnAt C mg (Str.ofString "_levenshtein_distance") 21 a__levenshtein_distance
 a__law_cells:Addr
 f__law_cells:FnAt C mg (Str.ofString "_law_cells") 23 a__law_cells
 a__law_word:Addr
 f__law_word:FnAt C mg (Str.ofString "_law_word") 24 a__law_word
 a__law_typed:Addr
 f__law_typed:FnAt C mg (Str.ofString "_law_typed") 25 a__law_typed
 a__law_line:Addr
 f__law_line:FnAt C mg (Str.ofString "_law_line") 26 a__law_line
 a__law_entry:Addr
 f__law_entry:FnAt C mg (Str.ofString "_law_entry") 27 a__law_entry
 a__law_cleared:Addr
 f__law_cleared:FnAt C mg (Str.ofString "_law_cleared") 28 a__law_cleared
 a__law_rings:Addr
 f__law_rings:FnAt C mg (Str.ofString "_law_rings") 29 a__law_rings
 a__law_table:Addr
 f__law_table:FnAt C mg (Str.ofString "_law_table") 30 a__law_table
 a__law_due:Addr
 f__law_due:FnAt C mg (Str.ofString "_law_due") 31 a__law_due
 a_law:Addr
 f_law:FnAt C mg (Str.ofString "law") 32 a_law
section
variable {C:Ctx} {env:Env} {σ σ₁ σ₂ σ':St} {s s₁ s₂ s':Shared} {A:Around} {k:Nat} {sc:Scope}
theorem Wk.gl1 (W:Wk C): ∀h:Heap,(∀b o,C.base.get? b=some o→b∉C.tabs→h.get? b=some o)→h.Ns mainGlobals W.mg:=fun h e=>(W.gl h e).1
theorem s_callF (K:CtxOk C) {mg:Str→Option Value} (hg: ∀h:Heap,(∀b o,C.base.get? b=some o→b∉C.tabs→h.get? b=some o)→h.Ns mainGlobals mg) {T:Con} {a:Addr} {n:Nat} {x:Str} {np pos:Pos} {P:PT V} {Ps:List (PT V)} {e:Expr} {es:List Expr}
  (F:FnAt C mg x n a) (hf:FnSound C k a T) (hl:sc.names.lookup x=some .globalImplicit) (ha:SoundEs C k sc (P::Ps) (e::es)) (hd:(x==("__debug__" :Str))=false:=by rfl):
  SoundE C k sc (ptCall T (P::Ps)) (.Call (.Name x np) (e::es) [] pos):=
 F.ob.casesOn fun o pm cd doc h1 h2 h3=>s_call K hf h1 F.nt h2 (s_glob hg F.g (fun _=>of_fn) hl hd) ha (mg:=mg)
theorem inter_fn (h:EnvOk C env):interactive env=false:=by
 unfold interactive
 simp[h.kind]
noncomputable def ptNever:PT Fl:=fun _ _=>False
theorem s_raise {x y:Option Expr} {pos:Pos}:Sound1 C k sc ptNever (.Raise x y pos):= .mk fun _ _ _ _ _ _ _ _ _ q=>q.elim
noncomputable def mpOf (l:List (Option Nat)):Nat→Option Nat:=fun j=>(l[j]?).getD none
noncomputable def compChk (scope sc:Scope) (l:List (Option Nat)) (own:List Str):Bool:=
 (scope.kind== .function)&&((sc.kind== .function)&&((scope.names.all fun x=> !(x.2== .local)||scope.names.lookup x.1==some .local)&&(decide ((scope.names.map (·.1)).Nodup)&&
 ((scope.names.all fun x=> !(x.2== .free)||sc.names.lookup x.1==some .cell)&&
 (((List.range l.length).all fun j=>(mpOf l j).all fun i=>(sc.names[i]?).any fun p=>p.2== .cell&&scope.names[j]? ==some (p.1,.free))&&own.all fun x=>scope.names.contains (x,.cell))))))
theorem any_t {α:Type} {o:Option α} {p:α→Bool} (h:o.any p=true): ∃x,o=some x∧p x=true:=by
 cases o with
 |none=>cases h
 |some x=>exact ⟨x,rfl,h⟩
theorem and_t {a b:Bool} (h:(a&&b)=true):a=true∧b=true:=Bool.and_eq_true_iff.mp h
theorem imp_t {α:Type} [BEq α] [LawfulBEq α] {a b:α} {c d:Bool} (h:(!(a==b)||c)=true) (e:a=b) (f:c=true→d=true):d=true:=by
 subst e
 rw[beq_self_eq_true] at h
 exact f h
theorem CompOk.of_chk {scope sc:Scope} {l:List (Option Nat)} {own:List Str} (h:compChk scope sc l own=true):CompOk scope sc (mpOf l) own:=by
 have h1:=and_t h
 have h2:=and_t h1.2
 have h3:=and_t h2.2
 have h4:=and_t h3.2
 have h5:=and_t h4.2
 have h6:=and_t h5.2
 refine ⟨eq_of_beq h1.1,eq_of_beq h2.1,fun x hx e=>eq_of_beq (imp_t (List.all_eq_true.mp h3.1 x hx) e id),of_decide_eq_true h4.1,fun x hx e=>eq_of_beq (imp_t (List.all_eq_true.mp h5.1 x hx) e id),fun j i e=>?_,fun x hx=>List.contains_iff_mem.mp (List.all_eq_true.mp h6.2 x hx)⟩
 have hj:j<l.length:=Nat.lt_of_not_le fun n=>by rw[mpOf,List.getElem?_eq_none n] at e;cases e
 have:=List.all_eq_true.mp h6.1 j (List.mem_range.mpr hj)
 rw[e] at this
 exact (any_t this).elim fun p z=>have q:=and_t z.2;⟨p.1,eq_of_beq q.2,z.1.trans (congrArg some (Prod.ext rfl (eq_of_beq q.1)))⟩
noncomputable def kindAt (sc:Scope) (i:Nat):NameKind:=((sc.names[i]?).map (·.2)).getD .local
noncomputable def fnChk (a:Arguments) (sc:Scope) (m:Nat):Bool:=
 ((List.range m).all fun i=>((a.args.map (·.arg))[i]?).any fun p=>sc.names[i]? ==some (p,kindAt sc i)&&(sc.names.lookup p==some (kindAt sc i)&&(kindAt sc i== .local||kindAt sc i== .cell)))&&(((a.args.map (·.arg)).length==m)&&
  (decide ((sc.names.map (·.1)).Nodup)&&(decide ((a.args.map (·.arg)).Nodup)&&((sc.kind== .function)&&(!sc.isCoroutine&& !sc.isGenerator)))))
theorem fnAt_sound (W:Wk C) {name:Str} {n m:Nat} {a:Addr} {P:PT Fl} (F:FnAt C W.mg name n a) (hP:SoundS C k (fdScope (st n)) P (fdBody (st n)))
  (hbind: ∀pm cd doc,∀vs:List Value,vs.length=m→bindArgs (docDef name (fdArgs (st n)) (fdBody (st n)) (fdScope (st n)) pm cd doc) ⟨vs,[]⟩=pure (((fdArgs (st n)).args.map (·.arg)).zip vs))
  (hchk:fnChk (fdArgs (st n)) (fdScope (st n)) m=true):FnSound C (k+1) a (fnCon m P):=by
 have c1:=and_t hchk
 have c2:=and_t c1.2
 have c3:=and_t c2.2
 have c4:=and_t c3.2
 have c5:=and_t c4.2
 have c6:=and_t c5.2
 exact F.ob.casesOn fun o pm cd doc h1 h2 h3=>fn_sound W.K W.T0 h1 F.nt h2 h3 (hbind pm cd doc) (fun i hi=>by
  have:=List.all_eq_true.mp c1.1 i (List.mem_range.mpr hi)
  exact (any_t this).elim fun p z=>have q:=and_t z.2;have r:=and_t q.2
   ⟨p,_,z.1,eq_of_beq q.1,eq_of_beq r.1,(Bool.or_eq_true_iff.mp r.2).imp eq_of_beq eq_of_beq⟩)
  (eq_of_beq c2.1) (of_decide_eq_true c3.1) (of_decide_eq_true c4.1) (eq_of_beq c5.1) ((Bool.not_eq_true' _).mp c6.1) ((Bool.not_eq_true' _).mp c6.2) hP
theorem SoundNs.len {is:List Nat} {rs:List Str} (h:SoundNs C k sc is rs):rs.length=is.length:=by
 induction h with
 |nil=>rfl
 |cons _ _ _ ih=>simp[ih]
theorem s_swapR (K:CtxOk C) {is:List Nat} {rs:List Str} {P:PT V} {elts:List Expr} {n:Nat} {tpos pos:Pos} {e:Expr} (ht:SoundNs C k sc is rs) (h:SoundE C k sc P e)
  (hs: ∀env:Env,env.scope=sc→swapsWithSole [.Tuple elts n tpos] e pos.line env=pure false) (hw: ∀env:Env,env.scope=sc→swappedStores [.Tuple elts n tpos] e env=pure (some rs.reverse)):Sound1 C k sc (ptSwap is P) (.Assign [.Tuple elts n tpos] e pos):=
 s_swap K (ns:=rs.reverse) (by rw[List.reverse_reverse];exact ht) h (by rw[List.length_reverse,ht.len]) hs hw
theorem FnSound.weak {f:Addr} {T T':Con} (h:FnSound C k f T) (w: ∀ds Q σ,T' ds Q σ→T ds Q σ):FnSound C k f T':=fun A σ s Q ds vs hL hR r q=>h A σ s Q ds vs hL hR r (w ds Q σ q)
end
end
section
open PySem PySem.Spec PySem.Calls PyProof.Rows PySem.W
noncomputable def notStar:Expr→Bool
 | .Starred .. =>false
 |_=>true
section
variable {C:Ctx} {env:Env} {σ σ₁ σ₂ σ':St} {s s₁ s₂ s':Shared} {A:Around} {k:Nat} {sc:Scope}
structure NameOk (sc:Scope) (i:Nat) (x:Str) (kd:NameKind):Prop where
 get:sc.names[i]? =some (x,kd)
 look:sc.names.lookup x=some kd
 dbg:(x==("__debug__" :Str))=false
 cd:(x==("__classdict__" :Str))=false
theorem NameOk.of {i:Nat} {x:Str} {kd:NameKind} (h:(sc.names[i]? ==some (x,kd)&&sc.names.lookup x==some kd&& !(x==("__debug__" :Str))&& !(x==("__classdict__" :Str)))=true):NameOk sc i x kd:=by
 have a:=and_t h
 have b:=and_t a.1
 have c:=and_t b.1
 exact ⟨eq_of_beq c.1,eq_of_beq c.2,(Bool.not_eq_true' _).mp b.2,(Bool.not_eq_true' _).mp a.2⟩
theorem v_loc {x:Str} {pos:Pos} (i:Nat) (h:NameOk sc i x .local):SoundE C k sc (ptVar i) (.Name x pos):=s_var i h.get h.look (.inl rfl) h.dbg h.cd
theorem v_cel {x:Str} {pos:Pos} (i:Nat) (h:NameOk sc i x .cell):SoundE C k sc (ptVar i) (.Name x pos):=s_var i h.get h.look (.inr (.inl rfl)) h.dbg h.cd
theorem v_fre {x:Str} {pos:Pos} (i:Nat) (h:NameOk sc i x .free):SoundE C k sc (ptVar i) (.Name x pos):=s_var i h.get h.look (.inr (.inr rfl)) h.dbg h.cd
theorem v_glob (W:Wk C) {x:Str} {pos:Pos} {i:Int} {t:Tok} {j:Nat} (hv:W.mg x=some (.int i t)) (h:NameOk sc j x .globalImplicit):SoundE C k sc (ptGlob (.int i)) (.Name x pos):=s_glob W.gl1 hv (fun _=>of_int) h.look h.dbg
theorem star_c {e:Expr} (h:notStar e=true) (es:List Expr) (env:Env):starEach (e::es) env=(false,eval e env)::starEach es env:=by
 cases e<;>first|rfl|cases h
theorem SoundEs.c {P:PT V} {Ps:List (PT V)} {e:Expr} {es:List Expr} (a:SoundE C k sc P e) (h:notStar e=true) (b:SoundEs C k sc Ps es):SoundEs C k sc (P::Ps) (e::es):=SoundEs.cons a b (star_c h)
theorem v_bi (W:Wk C) (b:Bi) {x:Str} {np pos:Pos} {P:PT V} {Ps:List (PT V)} {e:Expr} {es:List Expr} {j:Nat}
  (hmiss:W.mg x=none) (hv:W.mb x=some (.builtin b.id)) (h:NameOk sc j x .globalImplicit) (ha:SoundEs C k sc (P::Ps) (e::es)):SoundE C k sc (ptBi b (P::Ps)) (.Call (.Name x np) (e::es) [] pos):=
 s_bi W.K W.gl hmiss hv h.look h.dbg ha
theorem v_call (W:Wk C) {T:Con} {a:Addr} {n j:Nat} {x:Str} {np pos:Pos} {P:PT V} {Ps:List (PT V)} {e:Expr} {es:List Expr}
  (F:FnAt C W.mg x n a) (hf:FnSound C k a T) (h:NameOk sc j x .globalImplicit) (ha:SoundEs C k sc (P::Ps) (e::es)):SoundE C k sc (ptCall T (P::Ps)) (.Call (.Name x np) (e::es) [] pos):=
 s_callF W.K W.gl1 F hf h.look ha h.dbg
noncomputable abbrev BaseEq (o:Expr) (n:Str):Prop:=(fun env=>attributeBase o n env (eval o env))=eval o
theorem v_m0 (W:Wk C) (m:Mth) {P:PT V} {o:Expr} {n:Str} {apos pos:Pos} (ho:SoundE C k sc P o) (hn:n=m.name) (hc:BaseEq o n) (hline:(apos.endLine==pos.line)=true):
  SoundE C k sc (ptMeth m P []) (.Call (.Attribute o n apos) [] [] pos):=s_meth0 W.K m ho hn (fun env=>congrFun hc env) hline
theorem v_m1 (W:Wk C) (m:Mth) {P R:PT V} {o e:Expr} {n:Str} {apos pos:Pos} (ho:SoundE C k sc P o) (he:SoundE C k sc R e) (hn:n=m.name) (hc:BaseEq o n) (hline:(apos.endLine==pos.line)=true) (hs:notStar e=true):
  SoundE C k sc (ptMeth m P [R]) (.Call (.Attribute o n apos) [e] [] pos):=s_meth1 W.K m ho he hn (fun env=>congrFun hc env) hline fun env=>by rw[star_c hs];rfl
noncomputable abbrev SubEq (slice:Expr):Prop:=subscripted slice false=fun o i=>operate [o,i] (getItem o i)
theorem v_it (W:Wk C) {P R:PT V} {value slice:Expr} {pos:Pos} (hv:SoundE C k sc P value) (hi:SoundE C k sc R slice) (h:SubEq slice):SoundE C k sc (ptIt P R) (.Subscript value slice pos):=s_it W.K W.Z hv hi fun o i=>congrFun (congrFun h o) i
theorem v_t {P:PT V} {e:Expr} (he:SoundE C k sc P e) (h:(fun env=>isTrue e env (eval e env))=fun env=>(do let v ←eval e env;standAt e.pos;holding [v] (truthy v))):SoundB C k sc (ptT P) e:=s_t he fun env=>congrFun h env
noncomputable abbrev SetEq (e:Expr):Prop:=foldedSetIterable e=fun _ x=>pure x
theorem v_for (W:Wk C) {P:PTI} {T:AT} {B:PT Fl} {target iter:Expr} {body:List Stmt} {pos:Pos} (hi:SoundI C k sc P iter) (ht:SoundA C k sc T target) (h1:SetEq iter) (h2:letOwnedTupleGo target=fun _ _=>pure ()) (hb:SoundS C k sc B body):
  Sound1 C k sc (ptFor P T B) (.For target iter body [] pos):=s_for W.K hi ht hb (fun env x=>congrFun (congrFun h1 env) x) fun it v=>congrFun (congrFun h2 it) v
theorem asg_c {e:Expr} (h:notStar e=true) (es:List Expr) (env:Env):assignEach (e::es) env=(false,assign e env)::assignEach es env:=by
 cases e<;>first|rfl|cases h
theorem v_asg1 (W:Wk C) {T:AT} {P:PT V} {t e:Expr} {pos:Pos} (ht:SoundA C k sc T t) (h:SoundE C k sc P e) (h1:notStar t=true) (h2:swapsWithSole [t] e pos.line=fun _=>pure false) (h3:swappedStores [t] e=fun _=>pure none):Sound1 C k sc (ptAsgs [T] P) (.Assign [t] e pos):=
 s_asgs W.K (.one ht fun env=>asg_c h1 [] env) h (fun env _=>congrFun h2 env) fun env _=>congrFun h3 env
theorem v_asg2 (W:Wk C) {T T':AT} {P:PT V} {t t' e:Expr} {pos:Pos} (ht:SoundA C k sc T t) (ht':SoundA C k sc T' t') (h:SoundE C k sc P e) (h1:notStar t=true) (h1':notStar t'=true) (h2:swapsWithSole [t,t'] e pos.line=fun _=>pure false) (h3:swappedStores [t,t'] e=fun _=>pure none):
  Sound1 C k sc (ptAsgs [T,T'] P) (.Assign [t,t'] e pos):=
 s_asgs W.K (.cons ht (fun env=>asg_c h1 [t'] env) (fun env=>by rw[asg_c h1' []];rfl) (.one ht' fun env=>asg_c h1' [] env)) h (fun env _=>congrFun h2 env) fun env _=>congrFun h3 env
theorem SoundAs.c {T:AT} {Ts:List AT} {e:Expr} {es:List Expr} (h:SoundA C k sc T e) (hs:notStar e=true) (t:SoundAs C k sc Ts es):SoundAs C k sc (T::Ts) (e::es):= .cons h (fun es env=>asg_c hs es env) t
theorem v_an (W:Wk C) {x:Str} {pos:Pos} (i:Nat) (h:NameOk sc i x .local):SoundA C k sc (atName i) (.Name x pos):=a_name W.K i h.get h.look
theorem v_ac (W:Wk C) {x:Str} {pos:Pos} (i:Nat) (h:NameOk sc i x .cell):SoundA C k sc (atName i) (.Name x pos):=a_cell W.K i h.get h.look
theorem SoundNs.c {i:Nat} {is:List Nat} {x:Str} {xs:List Str} (h:NameOk sc i x .local) (t:SoundNs C k sc is xs):SoundNs C k sc (i::is) (x::xs):= .cons h.get h.look t
theorem v_swap (W:Wk C) {is:List Nat} {rs:List Str} {P:PT V} {elts:List Expr} {n:Nat} {tpos pos:Pos} {e:Expr} (ht:SoundNs C k sc is rs) (h:SoundE C k sc P e) (h1:swapsWithSole [.Tuple elts n tpos] e pos.line=fun _=>pure false)
  (hw: ∀env:Env,env.scope=sc→swappedStores [.Tuple elts n tpos] e env=pure (some rs.reverse)):Sound1 C k sc (ptSwap is P) (.Assign [.Tuple elts n tpos] e pos):=s_swapR W.K ht h (fun env _=>congrFun h1 env) hw
theorem v_aug (W:Wk C) {x:Str} {pos' pos:Pos} {op:Operator} {P:PT V} {e:Expr} (i:Nat) (h:NameOk sc i x .local) (he:SoundE C k sc P e):Sound1 C k sc (ptAug i op P) (.AugAssign (.Name x pos') op e pos):=s_aug W.K i h.get h.look he
theorem v_augSub (W:Wk C) {op:Operator} {P R T:PT V} {o i value:Expr} {tpos pos:Pos} (ho:SoundE C k sc P o) (hi:SoundE C k sc R i) (hv:SoundE C k sc T value) (h:augStore i=fun ov iv new=>(do holding [new,ov,iv] (setItem ov iv new);release [new,ov,iv] [];pure .next)):Sound1 C k sc (ptAugSub op P R T) (.AugAssign (.Subscript o i tpos) op value pos):=
 s_augSub W.K W.Z ho hi hv fun ov iv new=>congrFun (congrFun (congrFun h ov) iv) new
theorem v_expr {P:PT V} {e:Expr} {pos:Pos} (he:SoundE C k sc P e) (h:swapsWith e none pos.line=fun _=>pure false):Sound1 C k sc (ptExpr P) (.Expr e pos):=s_expr he (fun env h _=>inter_fn h) fun env=>congrFun h env
theorem v_range (W:Wk C) {P:PT V} {Ps:List (PT V)} {e:Expr} {es:List Expr} {np pos:Pos} {j:Nat} (h:NameOk sc j (Str.ofString "range") .globalImplicit) (ha:SoundEs C k sc (P::Ps) (e::es)):
  SoundI C k sc (ptRange (P::Ps)) (.Call (.Name (Str.ofString "range") np) (e::es) [] pos):=i_range W.K W.T0 W.gl W.m_range W.b_range h.look ha
theorem v_lrange (W:Wk C) {P:PT V} {Ps:List (PT V)} {e:Expr} {es:List Expr} {np pos np' pos':Pos} {j j':Nat} (h:NameOk sc j (Str.ofString "range") .globalImplicit) (h':NameOk sc j' (Str.ofString "list") .globalImplicit) (ha:SoundEs C k sc (P::Ps) (e::es)):
  SoundE C k sc (ptLRange (P::Ps)) (.Call (.Name (Str.ofString "list") np') [.Call (.Name (Str.ofString "range") np) (e::es) [] pos] [] pos'):=s_lrange W.K W.T0 W.gl W.m_range W.b_range h.look W.m_list W.b_list h'.look ha (fun es' env=>star_c rfl es' env)
theorem v_rev (W:Wk C) {P:PT V} {e:Expr} {np pos:Pos} {j:Nat} (h:NameOk sc j (Str.ofString "reversed") .globalImplicit) (ha:SoundEs C k sc [P] [e]):SoundI C k sc (ptIterR P) (.Call (.Name (Str.ofString "reversed") np) [e] [] pos):=
 i_rev W.K W.gl W.m_reversed W.b_reversed h.look ha
theorem v_afn (W:Wk C) {x:Str} {pos:Pos} (i:Nat) (h:NameOk sc i x .local):SoundAF C k sc [] (atName i) (.Name x pos):=af_name W.K i h.get h.look
theorem v_afc (W:Wk C) {x:Str} {pos:Pos} (i:Nat) (h:NameOk sc i x .cell):SoundAF C k sc [x] (atName i) (.Name x pos):=af_cell W.K i h.get h.look
theorem v_afp (W:Wk C) {x y:Str} {px py pos:Pos} {n:Nat} (i j:Nat) (h:NameOk sc i x .local) (h':NameOk sc j y .local):SoundAF C k sc [] (atTup [atName i,atName j]) (.Tuple [.Name x px,.Name y py] n pos):=af_pair W.K i j h.get h.look h'.get h'.look
theorem v_comp (W:Wk C) {scope:Scope} (l:List (Option Nat)) (own:List Str) (O:compChk scope sc l own=true) {P:PTI} {T:AT} {Tt:PT Bool} {E:PT V} {elt target iter:Expr} {ifs:List Expr} {pos:Pos}
  (hi:SoundI C k sc P iter) (ht:SoundAF C k (relS scope sc) own T target) (htest:SoundT C k (relS scope sc) Tt ifs) (he:SoundE C k (relS scope sc) E elt) (hf:SetEq iter):
  SoundE C k sc (ptComp P T Tt E (mpOf l)) (.ListComp elt [⟨target,iter,ifs,0⟩] scope pos):=s_comp W.K (CompOk.of_chk O) hi ht htest he (fun env x=>congrFun (congrFun hf env) x)
theorem v_asgComp (W:Wk C) {scope:Scope} (l:List (Option Nat)) (own:List Str) (O:compChk scope sc l own=true) {P:PTI} {T:AT} {Tt:PT Bool} {E:PT V} {elt target iter:Expr} {ifs:List Expr} {pos:Pos} {y:Str} {py spos:Pos} (i:Nat)
  (hy:NameOk sc i y .local) (hi:SoundI C k sc P iter) (ht:SoundAF C k (relS scope sc) own T target) (htest:SoundT C k (relS scope sc) Tt ifs) (he:SoundE C k (relS scope sc) E elt) (hf:SetEq iter)
  (hsw: ∀env:Env,env.scope=sc→swapsWith (.ListComp elt [⟨target,iter,ifs,0⟩] scope pos) (some (.Name y py)) spos.line env=pure true):
  Sound1 C k sc (ptAsgComp i (ptComp P T Tt E (mpOf l))) (.Assign [.Name y py] (.ListComp elt [⟨target,iter,ifs,0⟩] scope pos) spos):=s_asgComp W.K (CompOk.of_chk O) i hy.get hy.look hi ht htest he (fun env x=>congrFun (congrFun hf env) x) hsw
end
end
section
open PySem PySem.Spec PySem.Calls PyProof.Rows PySem.W
inductive StrAt:Option Str→Option Value→Prop
 |some (x:Str) (t:Tok):StrAt (some x) (some (.str x t))
 |none:StrAt none none
structure Wt (C:Ctx) (W:Wk C) where
 b1:Addr
 g_b1:W.mg (Str.ofString "b1_set")=some (.ref b1)
 n_b1:b1∉C.tabs
 S1:Int→Bool
 o_b1: ∃n,C.base.SetOf (intKind C.prog C.w) b1 S1 n
 b3:Addr
 g_b3:W.mg (Str.ofString "b3_exceptions")=some (.ref b3)
 n_b3:b3∉C.tabs
 m_b3:(b3==sysModules)=false
 F3:Int→Option Str
 o_b3: ∃f,C.base.MapOf (intKind C.prog C.w) b3 f∧ ∀k,StrAt (F3 k) (f k)
section
variable {C:Ctx} {env:Env} {σ σ₁ σ₂ σ':St} {s s₁ s₂ s':Shared} {A:Around} {k:Nat} {sc:Scope}
theorem Wt.set (W:Wk C) (T:Wt C W) (hR:Rel C env σ s): ∃n,s.heap.SetOf (intKind C.prog C.w) T.b1 T.S1 n:=T.o_b1.imp fun n z=>z.imp fun o z=>z.imp fun es z=>z.imp fun ep z=>z.imp fun t z=>z.imp_left fun e=>hR.keep _ _ e T.n_b1
theorem Wt.map (W:Wk C) (T:Wt C W) (hR:Rel C env σ s): ∃f,s.heap.MapOf (intKind C.prog C.w) T.b3 f∧ ∀k,StrAt (T.F3 k) (f k):=T.o_b3.imp fun f z=>z.imp_left fun z=>z.imp fun o z=>z.imp fun es z=>z.imp fun ep z=>z.imp_left fun e=>hR.keep _ _ e T.n_b3
theorem intK {prog:Program} {w:World} {i:Int} {t:Tok}:(intKind prog w).is i (.int i t)=true:=by simp[intKind,Value.isInt]
noncomputable def ptInSet (S:Int→Bool) (P:PT V):PT V:=fun Q σ=>P (fun v σ₁=> ∃i,v= .int i∧Q (.bool (S i)) σ₁) σ
theorem v_inset (W:Wk C) (T:Wt C W) {P:PT V} {l:Expr} {pos np:Pos} {j:Nat} (hl:SoundE C k sc P l) (h:NameOk sc j (Str.ofString "b1_set") .globalImplicit):
  SoundE C k sc (ptInSet T.S1 P) (.Compare l [.In] [.Name (Str.ofString "b1_set") np] pos):= .mk fun env A σ s Q hs hE hL hR q=>
 wpAny_Compare1 (hl.bind hs hE hL hR q fun a s₁ x σ₁ r1 R1 S1 v1 q'=>q'.elim fun i qq=>by
  obtain ⟨rfl,q⟩:=qq
  subst hs
  exact r1.eI fun t=>(T.set W R1).elim fun n hS=>Name_function_global hE.kind h.look (loadGlobal_global (by rw[hE.globals];exact W.gl1 _ R1.keep) T.g_b1
   (wpAny_inSet_of (knd:=intKind C.prog C.w) (k:=i) intK (by rfl) hS (PostE.back S1 v1 (.tok R1 of_bool q)))) h.dbg) rfl
noncomputable def oStr:Option Str→V
 |some x=> .str x
 |none=> .none
noncomputable def ptGet (F:Int→Option Str) (P:PT V):PT V:=fun Q σ=>P (fun v σ₁=> ∃i,v= .int i∧Q (oStr (F i)) σ₁) σ
theorem v_dget (W:Wk C) (T:Wt C W) {P:PT V} {e:Expr} {np apos pos:Pos} {j:Nat} (he:SoundE C k sc P e) (h:NameOk sc j (Str.ofString "b3_exceptions") .globalImplicit) (hline:(apos.endLine==pos.line)=true) (hs:notStar e=true):
  SoundE C k sc (ptGet T.F3 P) (.Call (.Attribute (.Name (Str.ofString "b3_exceptions") np) (Str.ofString "get") apos) [e] [] pos):= .mk fun env A σ s Q hsc hE hL hR q=>by
 refine wpAny_Call_method1_late rfl hline (by rw[star_c hs];rfl) ?_
 subst hsc
 refine Name_function_global hE.kind h.look (loadGlobal_global (by rw[hE.globals];exact W.gl1 _ hR.keep) T.g_b3 ?_) h.dbg
 refine (T.map W hR).elim fun f z=>z.1.elim fun o z=>z.elim fun es z=>z.elim fun ep z=>⟨"dict","dict.get",F.plainAttrs_dict,F.slot_dict_get,F.type_dict_get,⟨o,z.1,z.2.1.1⟩,fun a e=>⟨o,by cases e;exact z.1,z.2.1.2.1⟩,?_⟩
 exact wpAny_dict_get1 (knd:=intKind C.prog C.w) T.m_b3 (wpAny_mono (he.run rfl hE hL hR q) (fun v s₁ p=>p.casesOn fun x σ₁ r1 R1 S1 v1 q'=>q'.elim fun i qq=>by
  obtain ⟨rfl,q⟩:=qq
  exact r1.eI fun t=>(T.map W R1).elim fun f z=>⟨i,f,intK,z.1,PostE.back S1 v1 (by
   have y:=z.2 i
   generalize T.F3 i=a at y q
   generalize f i=b at y
   cases y with
   |some x t=>exact .tok R1 of_str q
   |none=>exact .tok R1 of_none q)⟩) fun _ _ x=>x)
end
end
section
open PySem PySem.Spec PySem.Calls PyProof.Rows PySem.W
section
variable {C:Ctx} {env:Env} {σ σ₁ σ₂ σ':St} {s s₁ s₂ s':Shared} {A:Around} {k:Nat} {sc:Scope}
inductive ConstPairs:List (Option Expr)→List Expr→List (Str×Int)→Prop
 |nil:ConstPairs [] [] []
 |cons {x:Str} {kx:Nat} {px:Pos} {i:Int} {ki:Nat} {pi:Pos} {ks:List (Option Expr)} {vs:List Expr} {l:List (Str×Int)} (t:ConstPairs ks vs l):
   ConstPairs (some (.Constant (.str x) kx px)::ks) (.Constant (.int i) ki pi::vs) ((x,i)::l)
inductive IntVals:List (Str×Int)→List (Str×Value)→Prop
 |nil:IntVals [] []
 |cons {x:Str} {i:Int} {t:Tok} {l:List (Str×Int)} {m:List (Str×Value)} (h:IntVals l m):IntVals ((x,i)::l) ((x,.int i t)::m)
theorem ConstPairs.some {ks:List (Option Expr)} {vs:List Expr} {l:List (Str×Int)} (h:ConstPairs ks vs l):ks.all (·.isSome)=true∧ks.length=vs.length∧ks.length=l.length:=by
 induction h with
 |nil=>exact ⟨rfl,rfl,rfl⟩
 |cons t ih=>exact ⟨ih.1,congrArg Nat.succ ih.2.1,congrArg Nat.succ ih.2.2⟩
theorem isStr_self {prog:Program} {w:World} {x:Str} {t:Tok}:(PySem.strKind prog w).is x (.str x t)=true:=by simp[PySem.strKind,Value.isStrOf]
theorem pairs_run {ks:List (Option Expr)} {vs:List Expr} {l:List (Str×Int)} (h:ConstPairs ks vs l): ∀{s:Shared} {pos:Pos} {Q:List (Value×Value)→Shared→Prop},
  (∀ps kvs tk,Carries (PySem.strKind C.prog C.w) ps kvs→IntVals l kvs→Q ps {s with toks:=tk})→wpAny (model C.prog C.w) A (evalPairs (pairTrees ks vs env pos)) Q NoE s:=by
 induction h with
 |nil=>intro s pos Q q;exact evalPairs_nil (q [] [] s.toks trivial .nil)
 | @cons x kx px i ki pi ks vs l t ih=>
  intro s pos Q q
  show wpAny _ A (evalPairs ((eval (.Constant (.str x) kx px) env,do let v ←eval (.Constant (.int i) ki pi) env;standAt pos;pure v)::pairTrees ks vs env pos)) Q NoE s
  refine evalPairs_cons (Constant_str (wpAny_bind (wpAny_Constant_int (wpAny_bind (wpAny_standAt (wpAny_pure (ih fun ps kvs tk c iv=>?_)))))))
  exact q _ ((x,.int i _)::kvs) tk ⟨isStr_self,rfl,c⟩ (.cons iv)
inductive IntAt:Option Int→Option Value→Prop
 |some (i:Int) (t:Tok):IntAt (some i) (some (.int i t))
 |none:IntAt none none
theorem IntAt.isSome {a:Option Int} {b:Option Value} (h:IntAt a b):b.isSome=a.isSome:=by cases h<;>rfl
inductive IsJ (C:Ctx) (F:Str→Option Int) (o:Obj):Prop
 |mk (f:Str→Option Value) (m: ∀h:Heap,∀a,h.get? a=some o→h.MapOf (PySem.strKind C.prog C.w) a f) (v: ∀x,IntAt (F x) (f x)):IsJ C F o
noncomputable def lookJ (l:List (Str×Int)) (x:Str):Option Int:=(l.find? fun p=>p.1=x).map (·.2)
theorem valueAt_J {l:List (Str×Int)} {m:List (Str×Value)} (h:IntVals l m) (x:Str):IntAt (lookJ l x) (valueAt m x):=by
 induction h with
 |nil=>exact .none
 | @cons y i t l m h ih=>
  unfold lookJ valueAt at ih⊢
  rw[List.find?_cons,List.find?_cons]
  cases decide (y=x) with
  |true=>exact .some i t
  |false=>exact ih
theorem stored_new {K:Type} [DecidableEq K] {acc:List (K×Value)} {k:K} {v:Value} (h:k∉acc.map (·.1)):stored acc k v=acc++[(k,v)]:=
 if_neg fun z=>(List.any_eq_true.mp z).elim fun kv z=>h (List.mem_map.mpr ⟨kv,z.1,of_decide_eq_true z.2⟩)
theorem merged_app {K:Type} [DecidableEq K] {m acc:List (K×Value)} (nd:((acc++m).map (·.1)).Nodup):merged acc m=acc++m:=by
 induction m generalizing acc with
 |nil=>exact (List.append_nil _).symm
 |cons p m ih=>
  have n:p.1∉acc.map (·.1):=fun z=>by
   rw[List.map_append] at nd
   exact (List.nodup_append.mp nd).2.2 _ z _ List.mem_cons_self rfl
  have e:acc++[p]++m=acc++p::m:=List.append_assoc ..
  have go:=ih (acc:=acc++[p]) (e▸nd)
  rw[e] at go
  exact (congrArg (fun a=>merged a m) (stored_new n)).trans go
theorem merged_nodup {K:Type} [DecidableEq K] {l:List (K×Value)} (h:(l.map (·.1)).Nodup):merged [] l=l:=merged_app h
theorem IntVals.keys {l:List (Str×Int)} {m:List (Str×Value)} (h:IntVals l m):m.map (·.1)=l.map (·.1):=by
 induction h with
 |nil=>rfl
 |cons h ih=>exact congrArg _ ih
noncomputable def addRo (σ:St) (a:Addr) (o:Obj):St:=⟨σ.vars,σ.lists,fun b=>if b=a then some o else σ.ro b⟩
theorem addRo_to {σ:St} {a b:Addr} {o x:Obj} {P:Prop} (e:(addRo σ a o).ro b=some x) (f:b=a→o=x→P) (g:b≠a→σ.ro b=some x→P):P:=by
 by_cases h:b=a
 ·exact f h (Option.some.inj ((if_pos h).symm.trans e))
 ·exact g h ((if_neg h).symm.trans e)
theorem Rel.addRo (R:Rel C env σ s) {a:Addr} {o:Obj} (e:s.heap.get? a=some o) (n1:a≠env.locals) (n2: ∀x,env.cells.lookup x≠some a) (n3:σ.lists a=none) (n4:C.base.get? a=none):Rel C env (Mine.addRo σ a o) s:=
 ⟨R.base,R.bare,R.vars,R.lists,R.cells,fun b o' q=>addRo_to q (fun c d=>by subst c;subst d;exact ⟨e,n1,n2,n3,n4⟩) fun _ q=>(R.ro b o' q).casesOn fun e n c l b=>⟨e,n,c,l,b⟩⟩
theorem Step.addRo {X:Addr→Prop} (S:Step X σ σ' s s') {a:Addr} {o:Obj} (h:s.heap.get? a=none):Step X σ (Mine.addRo σ' a o) s s':=
 ⟨S.kept,S.there,S.dom,S.mono,fun b o' e=>(S.rod b o' e).imp (if_neg (ne_at e h)).trans fun z=>z.imp fun x z=>z.imp_left (if_neg (ne_at e h)).trans⟩
noncomputable def ptDict (l:List (Str×Int)):PT V:=fun Q σ=> ∀a o,σ.lists a=none→σ.ro a=none→a≠sysModules→IsJ C (lookJ l) o→Q (.fn a) (addRo σ a o)
theorem map_obj {prog:Program} {w:World} {K:PySem.KeyKind prog w Str} {f:Str→Option Value} {o:Obj} {h:Heap} {a:Addr} (e:h.get? a=some o) (m:h.MapOf K a f) (h':Heap) (a':Addr) (e':h'.get? a'=some o):h'.MapOf K a' f:=
 m.elim fun o1 m=>m.elim fun es m=>m.elim fun ep m=>two_at m.1 e fun q=>by subst q;exact ⟨o1,es,ep,e',m.2⟩
theorem v_dict (W:Wk C) {ks:List (Option Expr)} {vs:List Expr} {l:List (Str×Int)} {pos:Pos} (h:ConstPairs ks vs l) (nd:(l.map (·.1)).Nodup) (h0:ks≠[]) (hn:ks.length≤15):SoundE C k sc (ptDict (C:=C) l) (.Dict ks vs pos):= .mk fun env A σ s Q hs hE hL hR q=>
 wpAny_Dict_walk (knd:=strKind C.prog C.w) h.some.1 h.some.2.1 h0 hn (pairs_run h fun ps kvs tk c iv=>⟨kvs,c,Heap.DictOf.new _,fun h' hd hsb=>by
  rw[merged_nodup (by rw[iv.keys];exact nd)] at hd
  have g:Grow s.heap h':=fun b o e=>(hsb.2 b (ne_at e (get_size _))).trans (Heap.get?_push_of_some _ e)
  have ap:=hR.free W.K (get_size s.heap)
  exact hd.elim fun o z=>⟨.fn s.heap.objs.size,addRo σ s.heap.objs.size o,of_fn,(hR.grow W.K g).addRo z.choose_spec.choose_spec.1 ap.loc ap.cell ap.lst ap.base,(Step.grow g).addRo (get_size _),rfl,
   q s.heap.objs.size o ap.lst ap.ro (fun e=>W.mods.elim fun o' e'=>nomatch (hR.keep _ _ e' W.modn).symm.trans ((congrArg _ e.symm).trans (get_size s.heap))) ⟨valueAt kvs,map_obj z.choose_spec.choose_spec.1 hd.mapOf,valueAt_J iv⟩⟩⟩)
inductive JR (C:Ctx) (J:Str→Option Int) (Q:Option Int→St→Prop) (σ:St):V→V→Prop
 |mk (y:Str) (a:Addr) (o:Obj) (r:σ.ro a=some o) (j:IsJ C J o) (n:a≠sysModules) (q:Q (J y) σ):JR C J Q σ (.str y) (.fn a)
noncomputable def ptInJ (J:Str→Option Int) (P R:PT V):PT Bool:=fun Q σ=>P (fun x σ₁=>R (fun d σ₂=>JR C J (fun o=>Q o.isSome) σ₂ x d) σ₁) σ
theorem v_inJB (W:Wk C) {J:Str→Option Int} {P R:PT V} {l r:Expr} {pos:Pos} (hl:SoundE C k sc P l) (hr:SoundE C k sc R r) (hm:behindInMarks .In r=false):
  SoundB C k sc (ptInJ (C:=C) J P R) (.Compare l [.In] [r] pos):= .mk fun env A σ s Q hs hE hL hR q=>
 wpAny_isTrue_Compare1 (hl.bind hs hE hL hR q fun a s₁ x σ₁ r1 R1 S1 v1 q=>hr.bind hs hE hL R1 q fun b s₂ d σ₂ r2 R2 S2 v2 q'=>by
  replace r1:=S2.relE W.K R1 r1
  cases q' with
  |mk y c o hro hj hn qq=>exact r1.eS fun t=>rel_fn r2▸hj.casesOn fun f m v=>wpAny_in_of (knd:=PySem.strKind C.prog C.w) (k:=y) isStr_self (beq_eq_false_iff_ne.mpr hn) (m _ _ (R2.ro _ _ hro).1) ((v y).isSome▸wpAny_truthy_bool (((PostB.tok R2 qq).back S2 v2).back S1 v1))) hm
noncomputable def ptItJ (J:Str→Option Int) (P R:PT V):PT V:=fun Q σ=>P (fun d σ₁=>R (fun x σ₂=>JR C J (fun o σ=> ∃i,o=some i∧Q (.int i) σ) σ₂ x d) σ₁) σ
theorem map_is {prog:Program} {w:World} {K:PySem.KeyKind prog w Str} {f:Str→Option Value} {h:Heap} {a:Addr} (m:h.MapOf K a f): ∃o,h.get? a=some o∧o.cls= .type "dict" :=m.imp fun o m=>m.elim fun es m=>m.elim fun ep m=>⟨m.1,m.2.1.1⟩
theorem v_itJ (W:Wk C) {J:Str→Option Int} {P R:PT V} {value slice:Expr} {pos:Pos} (hv:SoundE C k sc P value) (hi:SoundE C k sc R slice) (h:SubEq slice):SoundE C k sc (ptItJ (C:=C) J P R) (.Subscript value slice pos):= .mk fun env A σ s Q hsc hE hL hR q=>
 Subscript_ (hv.bind hsc hE hL hR q fun v s₁ x σ₁ r1 R1 S1 v1 q=>hi.bind hsc hE hL R1 q fun w s₂ d σ₂ r2 R2 S2 v2 q'=>by
  cases q' with
  |mk y a o hro hj hn qq=>
   exact r2.eS fun t=>rel_fn r1▸hj.casesOn fun f m v=>qq.elim fun i q=>by
    have hm:=m _ _ (R2.ro _ _ hro).1
    have vy:=q.1▸v y
    generalize hz:f y=z at vy
    cases vy
    exact tail_any (T:="dict") (map_is hm) F.slot_dict_getitem.lookup (wpAny_getItem_of (knd:=PySem.strKind C.prog C.w) (k:=y) isStr_self hm hz (((PostE.tok R2 of_int q.2).back S2 v2).back S1 v1)) (congrFun (congrFun h _) _))
end
end
section
open PySem
noncomputable def joinedL:List (Str×Int):=[("ff",64256),("fi",64257),("ss",223),("st",64262)]
end
section
open PySem PySem.Spec PySem.Calls PyProof.Rows PySem.W
section
variable {C:Ctx} {env:Env} {σ σ₁ σ₂ σ':St} {s s₁ s₂ s':Shared} {A:Around} {k:Nat} {sc:Scope}
theorem Rel.table (K:CtxOk C) (R:Rel C env σ s) {P:Addr} (hP:P∈C.tabs) {ps:Array Value} {h':Heap} {tk:Nat} (e:s.heap.get? P=some (tabObj ps)) (g:GrowBut P s.heap h') (t:C.tabOk h') (th: ∃o,h'.get? P=some o):
  Rel C env σ {s with heap:=h',toks:=tk}∧Step (XE C σ) σ σ s {s with heap:=h',toks:=tk}:=by
 have nt: ∀items,¬IsTup s.heap P items:=fun items t=>tup_at t fun o n e' d=>data_at e e' rfl d fun z=>nomatch z
 have nC: ∀{c:Addr} {v:Option Value},s.heap.IsCell c v→h'.IsCell c v:=fun z=>g.cell (fun q=>cell_at z fun o e' d=>data_at e (q▸e') rfl d fun z=>nomatch z) z
 exact ⟨⟨⟨fun b o e' n=>g b o (fun q=>n (q▸hP)) (R.keep b o e' n),t,R.os⟩,R.bare,R.vars.imp fun m z=>⟨g.ns (fun q=>ns_at z.1 fun o _ _ e' d=>data_at e (q▸e') rfl d fun z=>nomatch z) z.1,fun i v q=>(z.2 i v q).move (g.rel nt) fun _=>nC⟩,
  fun a xs q=>(R.lists a xs q).casesOn fun items l r b=>g.at nt (fun q=>list_at l fun o n e' d=>data_at e (q▸e') rfl d fun z=>nomatch z) ⟨items,l,r,b⟩,fun x c q=>(R.cells x c q).imp fun v z=>nC z,
  fun a o q=>(R.ro a o q).casesOn fun z n nc l b=>⟨g _ _ (fun w=>(K.base P hP).elim fun ob hob=>nomatch b.symm.trans ((congrArg _ w).trans hob)) z,n,nc,l,b⟩⟩,
  fun b o e' n=>g b o (fun q=>n (.inr (q▸hP))) e',there_at g th,fun _ _ _ q=>q,fun _ q=>q,fun _ _ _=> .inl rfl⟩
structure NestOk (C:Ctx) (mg:Str→Option Value) (c P:Addr) (qual:Str) (pos:Pos):Prop where
 hd: ∀h:Heap,(∀b o,C.base.get? b=some o→b∉C.tabs→h.get? b=some o)→CodeHd h c P
 bu: ∀h:Heap,(∀b o,C.base.get? b=some o→b∉C.tabs→h.get? b=some o)→h.BuiltinsAt mg P
 tab:P∈C.tabs
 gP:mainGlobals≠P
 ok: ∀h,C.tabOk h→ ∃ps,h.get? P=some (tabObj ps)∧TriplesOk ps.toList∧ ∀cv,codeAmong pos ps.toList=some cv→ ∃c',cv= .ref c'∧C.base.get? c'=none∧h.CodeRec cv qual
 grown: ∀h h' ps c',C.tabOk h→h.get? P=some (tabObj ps)→Heap.ExtBut P h h'→C.base.get? c'=none→h'.CodeRec (.ref c') qual→codeAmong pos ps.toList=none→h'.get? P=some (tabObj (ps++ #[rawInt pos.line,rawInt pos.col,.ref c']))→C.tabOk h'
inductive IsIn (C:Ctx) (name qual:Str) (params:Arguments) (body:List Stmt) (scope:Scope) (clos:List (Str×Addr)) (o oc:Obj) (c':Addr):Prop
 |mk (doc pm ct:Value) (fn:o.data= .func (fnX name qual params body scope clos .none .none doc pm none (.ref c') ct)) (code: ∃vs t,oc.data= .fields vs∧vs[1]? =some (.str qual t)):IsIn C name qual params body scope clos o oc c'
theorem Step.addCode {X:Addr→Prop} (S:Step X σ σ' s s') {a:Addr} {o:Obj} (h:CodeLike o):Step X σ (Mine.addRo σ' a o) s s':=
 ⟨S.kept,S.there,S.dom,S.mono,fun b o' e=>by
  by_cases q:b=a
  ·exact .inr ⟨o,if_pos q,h⟩
  ·exact (S.rod b o' e).imp (if_neg q).trans fun z=>z.imp fun x z=>z.imp_left (if_neg q).trans⟩
end
end
section
open PySem PySem.Spec PySem.Calls PyProof.Rows PySem.W
section
variable {C:Ctx} {env:Env} {σ σ₁ σ₂ σ':St} {s s₁ s₂ s':Shared} {A:Around} {k:Nat} {sc:Scope}
theorem Rel.codeRo (K:CtxOk C) (R:Rel C env σ s) {c:Addr} {oc:Obj} (e:s.heap.get? c=some oc) (h:CodeLike oc) (b:C.base.get? c=none):Rel C env (Mine.addRo σ c oc) s:=by
 refine R.addRo e (fun q=>R.vars.elim fun m z=>ns_not_code z.1 oc (q▸e) h) (fun x q=>(R.cells x c q).elim fun v z=>cell_not_code z oc e h) ?_ b
 cases q:σ.lists c with
 |none=>rfl
 |some l=>exact (R.lists c l q).casesOn fun it l1 _ _=>(list_not_code l1 oc e h).elim
theorem def_fin (K:CtxOk C) {fo oc:Obj} {name:Str} {i:Nat} {c' cl:Addr} {h':Heap} {tk:Nat} {P:Shared→Prop} (hE:EnvOk C env) (hR:Rel C env σ s) (hl:env.scope.names.lookup name=some .cell) (hi:env.scope.names[i]? =some (name,.cell)) (hcl:env.cells.lookup name=some cl)
  (R1:Rel C env σ {s with heap:=h',toks:=tk}) (S1:Step (XE C σ) σ σ s {s with heap:=h',toks:=tk}) (e1:h'.get? c'=some oc) (hk:CodeLike oc) (hb:C.base.get? c'=none)
  (q: ∀s'',σ.lists h'.objs.size=none→σ.lists c'=none→σ.ro h'.objs.size=none→h'.objs.size≠c'→Rel C env (setV (Mine.addRo (Mine.addRo σ c' oc) h'.objs.size fo) i (.fn h'.objs.size)) s''→Step (XS C env σ) σ (setV (Mine.addRo (Mine.addRo σ c' oc) h'.objs.size fo) i (.fn h'.objs.size)) s s''→P s'') (nd:fo.isFreed=false):
  wpAny (model C.prog C.w) A (storeName env name (.ref h'.objs.size)) (fun _ s''=>P s'') NoE {s with heap:=h'.push fo,toks:=tk}:=by
 have g:Grow h' (h'.push fo):= .push _
 have ap:=R1.free K (get_size h')
 have R3:=Rel.codeRo K (R1.grow K (tk:=tk) g) (g _ _ e1) hk hb
 have ne:h'.objs.size≠c':=(ne_at e1 (get_size h')).symm
 have R4:Rel C env (Mine.addRo (Mine.addRo σ c' oc) h'.objs.size fo) {s with heap:=h'.push fo,toks:=tk}:=R3.addRo (by exact Heap.get?_push_size _ nd) ap.loc ap.cell ap.lst ap.base
 have lc:σ.lists c'=none:=(R3.ro c' oc (if_pos rfl)).casesOn fun _ _ _ l _=>l
 have frA:s.heap.get? h'.objs.size=none:=by
  cases z:s.heap.get? h'.objs.size with
  |none=>rfl
  |some o=>exact (S1.there _ _ z).elim fun o' e'=>nomatch (get_size h').symm.trans e'
 exact (R4.cells name cl hcl).elim fun v₀ hz=>wpAny_storeName_cell hE.kind hl hcl hz fun h₂ hn hsb=>
  have T:=R4.store_cell K hE (tk:=tk) (d:= .fn h'.objs.size) hi hl hcl of_fn hn hsb
  q _ ap.lst lc ap.ro ne T.1 (Step.transES (((S1.transE (Step.grow (tk:=tk) g)).addCode hk).addRo frA) T.2)
theorem def_run (K:CtxOk C) {mg:Str→Option Value} (hg: ∀h:Heap,(∀b o,C.base.get? b=some o→b∉C.tabs→h.get? b=some o)→h.Ns mainGlobals mg) {c P:Addr} {qual name:Str} {pos:Pos} (N:NestOk C mg c P qual pos) {params:Arguments} {body:List Stmt} {scope:Scope} {i:Nat}
  (hs:env.scope=sc) (hcode:env.code= .ref c) (hq:qualnameIn env name name=qual) (hE:EnvOk C env) (hL:Lim k A) (hR:Rel C env σ s) (hfree: ∀x∈scope.names,x.2= .free→sc.names.lookup x.1=some .cell)
  (hi:sc.names[i]? =some (name,.cell)) (hl:sc.names.lookup name=some .cell) (hd0:params.defaults=[]) (hk0:params.kw_defaults=[]) (ha:annTrees params none env=[]) {Q:Fl→St→Prop}
  (q: ∀a o c' oc,σ.lists a=none→σ.lists c'=none→σ.ro a=none→a≠c'→IsIn C name qual params body scope (clo env scope.names []) o oc c'→Q .next (setV (Mine.addRo (Mine.addRo σ c' oc) a o) i (.fn a))):
  wpAny (model C.prog C.w) A (exec (.FunctionDef name params body [] none [] scope none name pos) env) (PostS C env σ s Q) NoE s:=by
 subst hs
 obtain ⟨ps,hP,ht,hcv⟩:=N.ok _ hR.tab
 have hclo:=clo_eq env scope fun x hx hf=>Option.isSome_iff_exists.mpr (hE.own x.1 (hfree x hx hf))
 obtain ⟨cl,hcl⟩:=hE.own name hl
 -- behind the making
 have fin: ∀(h':Heap) (tk:Nat) (c':Addr) (doc pm ct:Value),Rel C env σ {s with heap:=h',toks:=tk}→Step (XE C σ) σ σ s {s with heap:=h',toks:=tk}→h'.CodeRec (.ref c') qual→C.base.get? c'=none→
   wpAny (model C.prog C.w) A (storeName env name (.ref h'.objs.size)) (fun _ s''=>PostS C env σ s Q .next s'') NoE {s with heap:=h'.push {cls:= .type "function",data:= .func (fnX name qual params body scope (clo env scope.names []) .none .none doc pm none (.ref c') ct)},toks:=tk}:=fun h' tk c' doc pm ct R1 S1 cr hb=>by
  obtain ⟨c'',oc,vs,t,e0,e1,e2,e3⟩:=cr
  cases e0
  exact def_fin K hE hR hl hi hcl R1 S1 e1 ⟨vs,qual,t,e2,e3⟩ hb (fun s'' z1 z2 z3 z4 R5 S5=>⟨.next,_,rfl,R5,S5,q _ _ c' oc z1 z2 z3 z4 (.mk doc pm ct rfl ⟨vs,t,e2,e3⟩)⟩) rfl
 refine nestDef_K hd0 hk0 ha ?_
 rw[hq]
 cases hf:codeAmong pos ps.toList with
 |some cv=>
  obtain ⟨c',rfl,hb,cr⟩:=hcv cv hf
  exact makeFunction_hit hclo hE.globals (hg _ hR.keep) hcode (N.hd _ hR.keep) hP ht hf (N.bu _ hR.keep) fun ctv doc h' tk g hsz=>fin h' tk c' doc _ ctv (hR.grow K g) (Step.grow g) (cr.imp fun c'' z=>z.imp fun oc z=>z.imp fun vs z=>z.imp fun t z=>⟨z.1,g _ _ z.2.1,z.2.2⟩) hb
 |none=>
  exact makeFunction_K hclo hE.globals (hg _ hR.keep) hcode (N.hd _ hR.keep) hP ht hf N.gP (N.bu _ hR.keep) fun c' ctv doc h' tk g h1 h2 hcr hP'=>
   have hb:=(hR.free K (I:=c') (by
    cases z:s.heap.get? c' with
    |none=>rfl
    |some o=>exact absurd (Heap.lt_size z) (Nat.not_lt.mpr h1))).base
   have T:=hR.table K N.tab (tk:=tk) hP g (N.grown _ _ _ _ hR.tab hP g hb hcr hf hP') ⟨_,hP'⟩
   fin h' tk c' doc _ ctv T.1 T.2 hcr hb
end
end
section
open PySem PySem.Spec PySem.Calls PyProof.Rows PySem.W
inductive And4 (a0 a1 a2 a3:Prop):Prop
 |mk (_:a0) (_:a1) (_:a2) (_:a3):And4 a0 a1 a2 a3
inductive And5 (a0 a1 a2 a3 a4:Prop):Prop
 |mk (_:a0) (_:a1) (_:a2) (_:a3) (_:a4):And5 a0 a1 a2 a3 a4
inductive And6 (a0 a1 a2 a3 a4 a5:Prop):Prop
 |mk (_:a0) (_:a1) (_:a2) (_:a3) (_:a4) (_:a5):And6 a0 a1 a2 a3 a4 a5
section
variable {C:Ctx} {σ:St} {Q:V→St→Prop} {QB:Bool→St→Prop} {QF:Fl→St→Prop} {QA:St→Prop} {QL:List V→St→Prop} {P R T:PT V} {B:PT Bool} {F G:PT Fl}
theorem p_var {i:Nat} {x:V} (h:σ.vars i=some x) (q:Q x σ):ptVar i Q σ:=⟨x,h,q⟩
theorem p_varQ {i:Nat} (q: ∃x,σ.vars i=some x∧Q x σ):ptVar i Q σ:=q
theorem p_int {i:Int} (q:Q (.int i) σ):ptInt i Q σ:=q
theorem p_str {i:Str} (q:Q (.str i) σ):ptStr i Q σ:=q
theorem p_none (q:Q .none σ):ptNone Q σ:=q
theorem p_bool {b:Bool} (q:Q (.bool b) σ):ptBool b Q σ:=q
theorem p_glob {x:V} (q:Q x σ):ptGlob x Q σ:=q
theorem p_bin {op:Operator} (q:P (fun a σ₁=>R (fun b σ₂=>opPT op a b Q σ₂) σ₁) σ):ptBin op P R Q σ:=q
theorem p_cmp {op:CmpOp} (q:P (fun a σ₁=>R (fun b σ₂=>cmpPT op a b QB σ₂) σ₁) σ):ptCmp op P R QB σ:=q
theorem p_ofB (q:B (fun b σ₁=>Q (.bool b) σ₁) σ):ptOfB B Q σ:=q
theorem p_un {op:UnaryOp} (q:P (fun a σ₁=>unPT op a Q σ₁) σ):ptUn op P Q σ:=q
theorem p_not (q:P (fun a σ₁=>tPT a (fun b σ₂=>Q (.bool (!b)) σ₂) σ₁) σ):ptNot P Q σ:=q
theorem p_t (q:P (fun a σ₁=>tPT a QB σ₁) σ):ptT P QB σ:=q
theorem p_notB (q:B (fun b σ₁=>QB (!b) σ₁) σ):ptNotB B QB σ:=q
theorem p_ifE (q:B (fun b σ₁=>if b=true then P Q σ₁ else R Q σ₁) σ):ptIfE B P R Q σ:=q
theorem p_nil (q:QF .next σ):ptNil QF σ:=q
theorem p_ret (q:P (fun v σ'=>QF (.ret v) σ') σ):ptRet P QF σ:=q
theorem p_retN (q:QF (.ret .none) σ):ptRetNone QF σ:=q
theorem p_if (q:B (fun b σ'=>if b=true then F QF σ' else G QF σ') σ):ptIf B F G QF σ:=q
theorem p_meth {m:Mth} {Ps:List (PT V)} (q:P (fun x σ₁=>mFit m x σ₁∧ptArgs Ps (fun xs σ₂=>mPT m x xs Q σ₂) σ₁) σ):ptMeth m P Ps Q σ:=q
theorem p_args0 (q:QL [] σ):ptArgs [] QL σ:=q
theorem p_args1 {Ps:List (PT V)} (q:P (fun x σ₁=>ptArgs Ps (fun xs σ₂=>QL (x::xs) σ₂) σ₁) σ):ptArgs (P::Ps) QL σ:=q
theorem p_bi {b:Bi} {Ps:List (PT V)} (q:ptArgs Ps (fun xs σ₁=>biPT b xs Q σ₁) σ):ptBi b Ps Q σ:=q
theorem p_call {T:Con} {Ps:List (PT V)} (q:ptArgs Ps (fun xs σ₁=>T xs (fun x σ₂=>Q x ⟨σ₁.vars,σ₂.lists,σ₁.ro⟩) σ₁) σ):ptCall T Ps Q σ:=q
theorem p_it (q:P (fun x σ₁=>R (fun i σ₂=>itPT x i Q σ₂) σ₁) σ):ptIt P R Q σ:=q
theorem p_sl (q:P (fun x σ₁=>R (fun l σ₂=>T (fun u σ₃=>slPT x l u Q σ₃) σ₂) σ₁) σ):ptSl P R T Q σ:=q
theorem p_list {Ps:List (PT V)} (q:ptArgs Ps (fun xs σ₁=>xs.length≤sizeLine∧ ∀c,σ₁.lists c=none→Q (.lst c) (setL σ₁ c xs)) σ):ptList Ps Q σ:=q
theorem p_tup {Ps:List (PT V)} (q:ptArgs Ps (fun xs σ₁=>xs.length≤sizeLine∧Q (.tup xs) σ₁) σ):ptTup Ps Q σ:=q
theorem p_asgs {Ts:List AT} (q:P (fun v σ'=>atAll Ts v (fun σ''=>QF .next σ'') σ') σ):ptAsgs Ts P QF σ:=q
theorem p_all0 {x:V} (q:QA σ):atAll [] x QA σ:=q
theorem p_all1 {A:AT} {As:List AT} {x:V} (q:A x (fun σ₁=>atAll As x QA σ₁) σ):atAll (A::As) x QA σ:=q
theorem p_aname {i:Nat} {x:V} (q:QA (setV σ i x)):atName i x QA σ:=q
theorem p_asub {y:V} (q:P (fun x σ₁=>R (fun i σ₂=>sitPT x i y QA σ₂) σ₁) σ):atSub P R y QA σ:=q
theorem p_atup {As:List AT} {l:List V} (h:l.length=As.length) (q:atSeq As l QA σ):atTup As (.tup l) QA σ:=⟨l,rfl,h,q⟩
theorem p_seq0 (q:QA σ):atSeq [] [] QA σ:=q
theorem p_seq1 {A:AT} {As:List AT} {x:V} {xs:List V} (q:A x (fun σ₁=>atSeq As xs QA σ₁) σ):atSeq (A::As) (x::xs) QA σ:=q
theorem p_swap {is:List Nat} (q:P (fun v σ'=> ∃l,v= .tup l∧l.length=is.length∧atSeq (is.map atName) l.reverse (fun σ''=>QF .next σ'') σ') σ):ptSwap is P QF σ:=q
theorem p_augSub {op:Operator} (q:P (fun x σ₁=>R (fun i σ₂=>itPT x i (fun old σ₃=>T (fun y σ₄=>ipPT op old y (fun z σ₅=>sitPT x i z (fun σ₆=>QF .next σ₆) σ₅) σ₄) σ₃) σ₂) σ₁) σ):ptAugSub op P R T QF σ:=q
theorem p_expr (q:P (fun _ σ₁=>QF .next σ₁) σ):ptExpr P QF σ:=q
theorem p_and0 (q:QB true σ):ptAll .And [] QB σ:=q
theorem p_or0 (q:QB false σ):ptAll .Or [] QB σ:=q
theorem o_add {a b:Int} (q:Q (.int (a+b)) σ):opPT .Add (.int a) (.int b) Q σ:= .addI q
theorem o_adds {a b:Str} (h:a.length+b.length≤sizeLine) (q:Q (.str (a++b)) σ):opPT .Add (.str a) (.str b) Q σ:= .addS h q
theorem o_div {a b:Int} (h:b≠0) (h':b.natAbs<1073741824) (q:Q (.int (a.fdiv b)) σ):opPT .FloorDiv (.int a) (.int b) Q σ:= .div h h' q
theorem o_mod {a b:Int} (h:b≠0) (q:Q (.int (a.fmod b)) σ):opPT .Mod (.int a) (.int b) Q σ:= .mod h q
theorem o_pow {a n:Int} (h:0≤n) (h':n≤1000000) (h'':a.natAbs<2^64) (q:Q (.int (a^n.toNat)) σ):opPT .Pow (.int a) (.int n) Q σ:= .pow h h' h'' q
theorem c_eqs {a b:Str} (q:QB (decide (a=b)) σ):cmpPT .Eq (.str a) (.str b) QB σ:= .eqS q
theorem m_lower {a:Str} (h:a.length≤5592405) (q:Q (.str (Txt.lower a)) σ):mPT .lower (.str a) [] Q σ:= .lower h q
theorem m_upper {a:Str} (h:a.length≤5592405) (q:Q (.str (Txt.upper a)) σ):mPT .upper (.str a) [] Q σ:= .upper h q
theorem m_bits {a:Int} (q:Q (.int (Builtin.Int.intBits a)) σ):mPT .bitlen (.int a) [] Q σ:= .bits q
theorem t_then {a b:Prop} (h:a):if true=true then a else b:=h
theorem t_else {a b:Prop} (h:b):if false=true then a else b:=h
end
section
variable {C:Ctx} {k:Nat} {σ:St} {Q:V→St→Prop} {QB:Bool→St→Prop} {QF:Fl→St→Prop} {P:PT V} {B:PT Bool} {F:PT Fl}
theorem p_augQ {i:Nat} {op:Operator} (q: ∃x,σ.vars i=some x∧P (fun y σ₁=>ipPT op x y (fun z σ₂=>QF .next (setV σ₂ i z)) σ₁) σ):ptAug i op P QF σ:=q
theorem p_swap2 {QA:St→Prop} {i j:Nat} {x y:V} (q:QA (setV (setV σ i y) j x)):atSeq (List.map atName [i,j]) [x,y].reverse QA σ:=q
theorem p_seqK {F G:PT Fl} (q:F (seqK G QF) σ):ptSeq F G QF σ:=q
theorem k_next {G:PT Fl} (q:G QF σ):seqK G QF .next σ:=q
theorem k_ret {G:PT Fl} {v:V} (q:QF (.ret v) σ):seqK G QF (.ret v) σ:=q
noncomputable def fnK (Q:V→St→Prop) (σ:St):Fl→St→Prop:=fun f τ=>Q (retV f) ⟨σ.vars,τ.lists,σ.ro⟩
theorem k_fn {v:V} {τ:St} (q:Q v ⟨σ.vars,τ.lists,σ.ro⟩):fnK Q σ (.ret v) τ:=q
theorem k_forN {P:St→Prop} (q:P σ):forK P QF .next σ:=q
theorem p_while (I:Nat→St→Prop) (n:Nat) (h:I n σ) (q: ∀n σ,I n σ→B (fun b σ₁=>if b=true then F (forK (fun σ₂=> ∃m,m<n∧I m σ₂) QF) σ₁ else QF .next σ₁) σ):ptWhile B F QF σ:=⟨I,n,h,q⟩
theorem p_for {PI:PTI} {T:AT} (q:PI (fun xs G σ₁=>ForOk xs G T F QF σ₁) σ):ptFor PI T F QF σ:=q
theorem p_comp {PI:PTI} {T:AT} {Tt:PT Bool} {E:PT V} {mp:Nat→Option Nat} (q:PI (fun xs G σ₁=>CompGo xs G T Tt E mp Q σ σ₁) σ):ptComp PI T Tt E mp Q σ:=q
theorem p_iL {QI:List V→(St→Prop)→St→Prop} (q:P (fun v σ₁=> ∃a xs,v= .lst a∧σ₁.lists a=some xs∧QI xs (fun σ=>σ.lists a=some xs) σ₁) σ):ptIterL P QI σ:=q
theorem p_iR {QI:List V→(St→Prop)→St→Prop} (q:P (fun v σ₁=> ∃a xs,[v]=[.lst a]∧σ₁.lists a=some xs∧QI xs.reverse (fun σ=>σ.lists a=some xs) σ₁) σ):ptIterR P QI σ:=q
theorem p_iS {QI:List V→(St→Prop)→St→Prop} (q:P (fun v σ₁=> ∃x,v= .str x∧QI (strIter x) (fun _=>True) σ₁) σ):ptIterS P QI σ:=q
noncomputable def RGo (xs:List V) (QI:List V→(St→Prop)→St→Prop) (σ:St):Prop:=RgI (fun a b c σ₁=>QI (rangeVals a c (Builtin.Range.rangeSize a b c).toNat) (fun _=>True) σ₁) xs σ
theorem p_rg {QI:List V→(St→Prop)→St→Prop} {Ps:List (PT V)} (q:ptArgs Ps (fun xs σ₁=>RGo xs QI σ₁) σ):ptRange Ps QI σ:=q
noncomputable def LRGo (xs:List V) (Q:V→St→Prop) (σ:St):Prop:=RgI (fun a b c σ₁=>Builtin.Range.rangeSize a b c≤100000∧ ∀l,σ₁.lists l=none→Q (.lst l) (setL σ₁ l (rangeVals a c (Builtin.Range.rangeSize a b c).toNat))) xs σ
theorem p_lrg {Ps:List (PT V)} (q:ptArgs Ps (fun xs σ₁=>LRGo xs Q σ₁) σ):ptLRange Ps Q σ:=q
theorem rgn (n:Nat):(Builtin.Range.rangeSize 0 n 1).toNat=n:=by
 delta Builtin.Range.rangeSize
 rw[if_pos (by decide),Int.ediv_one,Int.sub_zero]
 by_cases c:(0:Int)<n
 ·rw[if_pos c];lia
 ·rw[if_neg c];lia
theorem rgv (n:Nat):rangeVals 0 1 n=(List.range n).map fun i=>V.int ((i:Nat):Int):=by
 unfold rangeVals
 refine List.map_congr_left fun i _=>congrArg V.int ?_
 lia
theorem p_rg1 {QI:List V→(St→Prop)→St→Prop} {n:Nat} {a:Int} (e:a=n) (h:n≤1000000000) (q:QI ((List.range n).map fun i=>V.int ((i:Nat):Int)) (fun _=>True) σ):RGo [.int a] QI σ:=
 e▸⟨0,n,1,.one,⟨by decide,by decide,by lia,by lia,by decide,by decide⟩,by rw[rgn,rgv];exact q⟩
theorem p_and1 {P:PT Bool} {Ps:List (PT Bool)} (q:P (fun b σ₁=>if b=true then ptAll .And Ps QB σ₁ else QB false σ₁) σ):ptAll .And (P::Ps) QB σ:=q
theorem p_or1 {P:PT Bool} {Ps:List (PT Bool)} (q:P (fun b σ₁=>if b=true then QB true σ₁ else ptAll .Or Ps QB σ₁) σ):ptAll .Or (P::Ps) QB σ:=q
theorem t_nthen {a b:Prop} (h:a):if (!false)=true then a else b:=t_then h
theorem t_nelse {a b:Prop} (h:b):if (!true)=true then a else b:=t_else h
theorem t_bool {b:Bool} {QB:Bool→St→Prop} {σ:St} (q:QB b σ):tPT (.bool b) QB σ:= .bool q
theorem p_asgComp {i:Nat} {P:PT V} {QF:Fl→St→Prop} (q:P (fun v σ'=>QF .next (setV σ' i v)) σ):ptAsgComp i P QF σ:=q
theorem range_int {n i:Nat} {x:V} (h:((List.range n).map fun i:Nat=>V.int (i:Int))[i]? =some x):i<n∧x= .int (i:Int):=by
 rw[List.getElem?_map] at h
 by_cases c:i<n
 ·rw[List.getElem?_range c] at h
  exact ⟨c,(Option.some.inj h).symm⟩
 ·rw[List.getElem?_eq_none (by rw[List.length_range];exact Nat.le_of_not_lt c)] at h;cases h
theorem range_int2 {n i a:Nat} {x:V} (h:((List.range n).map fun t:Nat=>V.int ((a+t:Nat):Int))[i]? =some x):i<n∧x= .int ((a+i:Nat):Int):=by
 rw[List.getElem?_map] at h
 by_cases c:i<n
 ·rw[List.getElem?_range c] at h
  exact ⟨c,(Option.some.inj h).symm⟩
 ·rw[List.getElem?_eq_none (by rw[List.length_range];exact Nat.le_of_not_lt c)] at h;cases h
theorem u_neg {a c:Int} (h: -a=c) (q:Q (.int c) σ):unPT .USub (.int a) Q σ:=by subst h;exact .neg q
theorem u_not {a c:Int} (h:Builtin.bitNot a=c) (q:Q (.int c) σ):unPT .Invert (.int a) Q σ:=by subst h;exact .not q
noncomputable def fr (ds:List V) (σ:St):St:=⟨fun i=>ds[i]?,σ.lists,fun _=>none⟩
theorem fn_con {ds:List V} {n:Nat} {P:PT Fl} (h:ds.length=n) (q:P (fnK Q σ) (fr ds σ)):fnCon n P ds Q σ:=⟨h,q⟩
end
end
section
open PySem PySem.Spec PySem.Calls PyProof.Rows PySem.W
section
variable {C:Ctx} {env:Env} {σ σ₁ σ₂ σ':St} {s s₁ s₂ s':Shared} {A:Around} {k:Nat} {sc:Scope}
inductive CapAt (C:Ctx) (vals:Str→Option V) (h:Heap) (x:Str) (c:Addr):Prop
 |mk (b:C.base.get? c=none) (v:V) (val:Value) (e:vals x=some v) (r:RelV C h v val) (z:h.IsCell c (some val)):CapAt C vals h x c
structure Caps (C:Ctx) (clos:List (Str×Addr)) (vals:Str→Option V) (h:Heap):Prop where
 apart:clos.Pairwise fun x y=>x.2≠y.2
 each: ∀x c,(x,c)∈clos→CapAt C vals h x c
noncomputable def freeAt (clos:List (Str×Addr)) (vals:Str→Option V) (p:Str×NameKind):Option V:=if p.2= .free then (clos.lookup p.1).bind fun _=>vals p.1 else none
noncomputable def inRo (a:Addr) (o:Obj) (c':Addr) (oc:Obj):Addr→Option Obj:=fun b=>if b=a then some o else if b=c' then some oc else none
noncomputable def inSt (scope:Scope) (clos:List (Str×Addr)) (n:Nat) (ds:List V) (vals:Str→Option V) (σ:St) (a:Addr) (o:Obj) (c':Addr) (oc:Obj):St:=
 ⟨fun j=>if j<n then ds[j]? else (scope.names[j]?).bind (freeAt clos vals),σ.lists,inRo a o c' oc⟩
structure InOk (C:Ctx) (params:Arguments) (scope:Scope) (n:Nat):Prop where
 cell: ∀x∈scope.names,x.2≠ .cell
 par: ∀i,i<n→ ∃p,(params.args.map (·.arg))[i]? =some p∧scope.names[i]? =some (p,.local)∧scope.names.lookup p=some .local
 len:(params.args.map (·.arg)).length=n
 nd:(scope.names.map (·.1)).Nodup
 ndp:(params.args.map (·.arg)).Nodup
 kind:scope.kind= .function
 co:scope.isCoroutine=false
 gen:scope.isGenerator=false
theorem nodup_rev {l:List Str} (h:l.Nodup):l.reverse.Nodup:=List.pairwise_reverse.mpr (h.imp fun n e=>n e.symm)
theorem lookup_nodup {x:Str} {v:Value} {l:List (Str×Value)} (nd:(l.map (·.1)).Nodup) (h:(x,v)∈l):l.lookup x=some v:=by
 induction l with
 |nil=>cases h
 |cons a r ih=>
  have nd:=List.nodup_cons.mp nd
  refine (List.mem_cons.mp h).elim (fun e=>by subst e;exact lookup_here) fun h=>?_
  rw[List.lookup_cons,beq_eq_false_iff_ne.mpr fun e=>nd.1 (List.mem_map.mpr ⟨_,h,e⟩)]
  exact ih nd.2 h
theorem isFn_at {h:Heap} {b:Addr} {ob:Obj} (e:h.get? b=some ob) (n1: ∀v,ob.data≠ .cell v): ∀{v:Option Value},¬h.IsCell b v:=fun z=>cell_at z fun o e' d=>two_at e e' fun q=>n1 _ (q▸d)
theorem in_start (K:CtxOk C) {a c':Addr} {o oc:Obj} {clos:List (Str×Addr)} {params:Arguments} {scope:Scope} {n:Nat} (O:InOk C params scope n) {vals:Str→Option V} {ds:List V} {vs:List Value} (R:RelG C σ s) (hcap:Caps C clos vals s.heap) (r:RelVs C s.heap ds vs)
  (e1:env.scope=scope) (e2:env.locals=s.heap.objs.size) (e3:env.cells=clos) (e4:env.globals=mainGlobals) (e5:env.builtins=builtinsNs) {h':Heap} {tk:Nat} {m:Str→Option Value} (g:Grow s.heap h') (ns:h'.Ns s.heap.objs.size m)
  (hm: ∀{p:Str} {i:Nat} {v:Value},(params.args.map (·.arg))[i]? =some p→vs[i]? =some v→m p=some v) (hr: ∀b ob,inRo a o c' oc b=some ob→s.heap.get? b=some ob∧C.base.get? b=none∧(∀v,ob.data≠ .cell v)∧ ∀items n,ob.data≠ .seq items n):
  EnvOk C env∧Rel C env (inSt scope clos n ds vals σ a o c' oc) {s with heap:=h',toks:=tk}:=by
 subst e1
 subst e3
 have cp: ∀{x c},env.cells.lookup x=some c→CapAt C vals s.heap x c:=fun h=>hcap.each _ _ (PySem.mem_of_lookup h)
 refine ⟨⟨O.kind,e4,e5,O.nd,by rw[e2];exact R.base.notHere K (get_size _),hcap.apart,fun x c h=>(hcap.each x c h).casesOn fun b _ _ _ _ _=>b,fun x h=>(O.cell _ (PySem.mem_of_lookup h) rfl).elim⟩,
  R.base.grow K g,R.bare,⟨m,by rw[e2];exact ns,fun j v e=>?_⟩,fun b xs e=>(R.lists b xs e).grow g,fun x c e=>(cp e).casesOn fun _ _ _ _ _ z=>⟨_,g.cell z⟩,
  fun b ob e=>have z:=hr b ob e;⟨g _ _ z.1,fun q=>ne_at z.1 (get_size _) (q.trans e2),fun x q=>(cp q).casesOn fun _ _ _ _ _ w=>isFn_at z.1 z.2.2.1 w,?_,z.2.1⟩⟩
 ·by_cases hj:j<n
  ·exact (r.get ((if_pos hj).symm.trans e)).elim fun val v=>(O.par j hj).elim fun p z=>⟨p,.local,z.2.1,val,g.rel v.2,fun _=>hm z.1 v.1,fun z=>absurd rfl z⟩
  ·replace e:=(if_neg hj).symm.trans e
   cases hx:env.scope.names[j]? with
   |none=>rw[hx] at e;cases e
   |some p=>
    rw[hx] at e
    replace e:(if p.2= .free then (env.cells.lookup p.1).bind fun _=>vals p.1 else none)=some v:=e
    by_cases c:p.2= .free
    ·rw[if_pos c] at e
     cases hl:env.cells.lookup p.1 with
     |none=>rw[hl] at e;cases e
     |some b=>
      rw[hl] at e
      exact (cp hl).casesOn fun _ v' val w1 w2 w3=>by
       cases Option.some.inj (w1.symm.trans e)
       exact ⟨p.1,.free,hx.trans (congrArg some (Prod.ext rfl c)),val,g.rel w2,(fun z=>nomatch z),fun _=>⟨b,hl,g.cell w3⟩⟩
    ·rw[if_neg c] at e;cases e
 ·show σ.lists b=none
  cases q:σ.lists b with
  |none=>rfl
  |some l=>exact (R.lists b l q).casesOn fun it l _ _=>list_at l fun o n e' d=>two_at z.1 e' fun w=>(z.2.2.2 _ _ (w▸d)).elim
theorem inner_sound (K:CtxOk C) (T0:TopOk C) {a c':Addr} {o oc:Obj} {clos:List (Str×Addr)} {name qual:Str} {params:Arguments} {body:List Stmt} {scope:Scope} {n:Nat} {P:PT Fl} (I:IsIn C name qual params body scope clos o oc c') (O:InOk C params scope n)
  (hbind: ∀doc pm ct (vs:List Value),vs.length=n→bindArgs (fnX name qual params body scope clos .none .none doc pm none (.ref c') ct) ⟨vs,[]⟩=pure ((params.args.map (·.arg)).zip vs))
  (hP: ∀(env:Env) (A:Around) (σ:St) (s:Shared) (Q:Fl→St→Prop),env.scope=scope→env.cells=clos→EnvOk C env→Lim k A→Rel C env σ s→P Q σ→wpAny (model C.prog C.w) A (execs body env) (PostS C env σ s Q) NoE s) {vals:Str→Option V} {Q:V→St→Prop} {ds:List V} {vs:List Value} (hL:Lim (k+1) A) (R:RelG C σ s) (ha:s.heap.get? a=some o) (hc:s.heap.get? c'=some oc) (ba:C.base.get? a=none) (bc:C.base.get? c'=none)
  (hcap:Caps C clos vals s.heap) (r:RelVs C s.heap ds vs) (hn:ds.length=n)
  (q:P (fnK Q σ) (inSt scope clos n ds vals σ a o c' oc)):wpAny (model C.prog C.w) A (call (.ref a) vs) (PostG C σ s Q) NoE s:=by
 obtain ⟨doc,pm,ct,hdat,vsc,tc,hcd1,hcd2⟩:=I
 have hvs:vs.length=n:=r.len.symm.trans hn
 refine wpAny_call (codeAny_call_function (Nat.lt_of_le_of_lt (Nat.le_trans (Nat.le_add_right _ _) hL.depth) (by decide)) ha hdat O.co O.gen rfl ⟨c',oc,vsc,tc,rfl,hc,hcd1,hcd2⟩ ?_)
 rw[hbind doc pm ct vs hvs]
 have znd:(((params.args.map (·.arg)).zip vs).map (·.1)).Nodup:=by
  rw[List.map_fst_zip (by rw[O.len,hvs];exact Nat.le_refl _)];exact O.ndp
 refine wpAny_pure (wpAny_newFunctionEnv O.cell (fun x hx=>(List.getElem?_of_mem hx).elim fun i hi=>by
  have h1:=List.getElem?_zip_eq_some.mp hi
  exact (O.par i (O.len▸(List.getElem?_eq_some_iff.mp h1.1).1)).elim fun p z=>by
   cases Option.some.inj (h1.1.symm.trans z.1)
   exact z.2.2) (fun h' hns hsb=>?_) O.kind)
 generalize s.toks+((params.args.map (·.arg)).zip vs).length=tk
 generalize henv:newEnv scope s.heap.objs.size mainGlobals clos (qual++".<locals>.") (some a) (.ref c') none builtinsNs=env
 have e1:env.scope=scope:=by rw[←henv];rfl
 have e2:env.locals=s.heap.objs.size:=by rw[←henv];rfl
 have e3:env.cells=clos:=by rw[←henv];rfl
 have g:Grow s.heap h':=fun b o e=>(hsb.2 b (ne_at e (get_size _))).trans (Heap.get?_push_of_some _ e)
 have ER:=in_start (env:=env) (a:=a) (o:=o) (c':=c') (oc:=oc) (tk:=tk) K O R hcap r e1 e2 e3 (by rw[←henv];rfl) (by rw[←henv];rfl) g hns (fun hp hv=>lookup_nodup (by rw[List.map_reverse];exact nodup_rev znd) (List.mem_reverse.mpr (zip_mem hp hv))) (fun b ob e=>by
  unfold inRo at e
  by_cases c:b=a
  ·rw[if_pos c] at e
   cases e
   subst c
   exact ⟨ha,ba,fun v z=>(nomatch hdat.symm.trans z),fun i n z=>nomatch hdat.symm.trans z⟩
  ·rw[if_neg c] at e
   by_cases c:b=c'
   ·rw[if_pos c] at e
    cases e
    subst c
    exact ⟨hc,bc,fun v z=>(nomatch hcd1.symm.trans z),fun i n z=>nomatch hcd1.symm.trans z⟩
   ·rw[if_neg c] at e;cases e)
 have R1:=ER.2
 refine ⟨TopOk.limit T0 R1.g,codeAny_func (wpS (hP env (A.deeper env) _ _ _ e1 e3 ER.1 ⟨hL.handled,by have:=hL.depth;show A.depth+1+k≤900;lia,by have:=hL.units;show A.units+3+12*k≤9000;lia⟩ R1 q) fun fl s' gf σ' rf R' S q=>?_)⟩
 have S':Step (XE C σ) σ ⟨σ.vars,σ'.lists,σ.ro⟩ s s':=⟨fun b o e nx=>S.kept b o (g b o e) fun x=>by
   rcases x with x|x|⟨y,x,w⟩
   ·exact nx x
   ·exact ne_at e (get_size _) (x.trans e2)
   ·exact O.cell (y,NameKind.cell) (PySem.mem_of_lookup (show scope.names.lookup y=some NameKind.cell from e1▸w)) rfl,
  fun b o e=>S.there b o (g b o e),fun a o e l=>S.dom a o (g a o e) l,S.mono,fun a o e=> .inl rfl⟩
 have fin: ∀{v:Value},RelV C s'.heap (retV gf) v→PostG C σ s Q v s':=fun r=>⟨_,⟨σ.vars,σ'.lists,σ.ro⟩,r,⟨R'.base,R'.bare,R'.lists⟩,S',rfl,rfl,q⟩
 cases gf with
 |next=>cases (show fl= .next from rf);exact fin of_none
 |brk=>cases (show fl= .brk from rf);exact fin of_none
 |cont=>cases (show fl= .cont from rf);exact fin of_none
 |ret x=>exact rf.elim fun v r=>r.1▸fin r.2
end
end
section
open PySem PySem.Spec PySem.Calls PyProof.Rows PySem.W
structure SoundEX (X:Env→Prop) (C:Ctx) (k:Nat) (sc:Scope) (P:PT V) (e:Expr):Prop where
 go: ∀(env:Env) (A:Around) (σ:St) (s:Shared) (Q:V→St→Prop),env.scope=sc→X env→EnvOk C env→Lim k A→Rel C env σ s→P Q σ→
  wpAny (model C.prog C.w) A (eval e env) (PostE C env σ s Q) NoE s
structure Sound1X (X:Env→Prop) (C:Ctx) (k:Nat) (sc:Scope) (P:PT Fl) (st:Stmt):Prop where
 go: ∀(env:Env) (A:Around) (σ:St) (s:Shared) (Q:Fl→St→Prop),env.scope=sc→X env→EnvOk C env→Lim k A→Rel C env σ s→P Q σ→
  wpAny (model C.prog C.w) A (exec st env) (PostS C env σ s Q) NoE s
structure SoundSX (X:Env→Prop) (C:Ctx) (k:Nat) (sc:Scope) (P:PT Fl) (ss:List Stmt):Prop where
 go: ∀(env:Env) (A:Around) (σ:St) (s:Shared) (Q:Fl→St→Prop),env.scope=sc→X env→EnvOk C env→Lim k A→Rel C env σ s→P Q σ→
  wpAny (model C.prog C.w) A (execs ss env) (PostS C env σ s Q) NoE s
section
variable {C:Ctx} {env:Env} {σ σ₁ σ₂ σ':St} {s s₁ s₂ s':Shared} {A:Around} {k:Nat} {sc:Scope} {X:Env→Prop}
theorem SoundE.x {P:PT V} {e:Expr} (h:SoundE C k sc P e):SoundEX X C k sc P e:= .mk fun env A σ s Q hs _ hE hL hR q=>h.go env A σ s Q hs hE hL hR q
theorem Sound1.x {P:PT Fl} {e:Stmt} (h:Sound1 C k sc P e):Sound1X X C k sc P e:= .mk fun env A σ s Q hs _ hE hL hR q=>h.go env A σ s Q hs hE hL hR q
theorem x_nil:SoundSX X C k sc ptNil []:= .mk fun env A σ s Q hs _ hE hL hR q=>s_nil.go env A σ s Q hs hE hL hR q
theorem SoundEX.bind {P:PT V} {e:Expr} (h:SoundEX X C k sc P e) {Q:V→St→Prop} {R:Value→Shared→Prop} (hs:env.scope=sc) (hx:X env) (hE:EnvOk C env) (hL:Lim k A) (hR:Rel C env σ s) (q:P Q σ)
  (f: ∀v s₁ x σ₁,RelV C s₁.heap x v→Rel C env σ₁ s₁→Step (XE C σ) σ σ₁ s s₁→σ₁.vars=σ.vars→Q x σ₁→R v s₁):wpAny (model C.prog C.w) A (eval e env) R NoE s:=wpE (h.go env A σ s Q hs hx hE hL hR q) f
theorem x_cons {P R:PT Fl} {st:Stmt} {ss:List Stmt} (h₁:Sound1X X C k sc P st) (h₂:SoundSX X C k sc R ss):SoundSX X C k sc (ptSeq P R) (st::ss):= .mk fun env A σ s Q hs hx hE hL hR h=>
 wpAny_execs_cons (wpS (h₁.go env A σ s _ hs hx hE hL hR h) fun f s' g σ' rf R' S q=>by
  cases g with
  |next=>cases (show f= .next from rf);exact backS S (h₂.go env A σ' s' Q hs hx hE hL R' q)
  |brk=>cases (show f= .brk from rf);exact ⟨.brk,σ',rfl,R',S,q⟩
  |cont=>cases (show f= .cont from rf);exact ⟨.cont,σ',rfl,R',S,q⟩
  |ret v=>exact rf.elim fun val r=>r.1▸⟨.ret v,σ',⟨val,rfl,r.2⟩,R',S,q⟩)
theorem x_ret {P:PT V} {e:Expr} {pos:Pos} (h:SoundEX X C k sc P e):Sound1X X C k sc (ptRet P) (.Return (some e) pos):= .mk fun env A σ s Q hs hx hE hL hR q=>
 wpAny_Return_some (h.bind hs hx hE hL hR q fun v s' x σ' r R S _ q=>⟨.ret x,σ',⟨v,rfl,r⟩,R,Step.ES S,q⟩)
theorem x_expr {P:PT V} {e:Expr} {pos:Pos} (h:SoundEX X C k sc P e) (hs: ∀env:Env,swapsWith e none pos.line env=pure false):Sound1X X C k sc (ptExpr P) (.Expr e pos):= .mk fun env A σ s Q hsc hx hE hL hR q=>
 wpAny_Expr_any (h.bind hsc hx hE hL hR q fun v s₁ x σ₁ r1 R1 S1 v1 q=>⟨.next,σ₁,rfl,R1,Step.ES S1,q⟩) (inter_fn hE) (hs env)
theorem x_if {P:PT Bool} {R T:PT Fl} {test:Expr} {body orelse:List Stmt} {pos:Pos} (h:SoundB C k sc P test) (hb:SoundSX X C k sc R body) (ho:SoundSX X C k sc T orelse):
  Sound1X X C k sc (ptIf P R T) (.If test body orelse pos):= .mk fun env A σ s Q hsc hx hE hL hR q=>
 wpAny_If (h.bind hsc hE hL hR q fun b s' σ' R' S _ q=>onB q (fun q=>backES S (hb.go env A σ' s' Q hsc hx hE hL R' q)) fun q=>backES S (ho.go env A σ' s' Q hsc hx hE hL R' q))
theorem x_bin (K:CtxOk C) {op:Operator} {P R:PT V} {l r:Expr} {pos:Pos} (hl:SoundEX X C k sc P l) (hr:SoundEX X C k sc R r):SoundEX X C k sc (ptBin op P R) (.BinOp l op r pos):= .mk fun env A σ s Q hs hx hE hL hR q=>
 wpAny_BinOp (hl.bind hs hx hE hL hR q fun a s₁ x σ₁ r1 R1 S1 v1 q=>hr.bind hs hx hE hL R1 q fun b s₂ y σ₂ r2 R2 S2 v2 q=>backE S1 v1 (backE S2 v2 (op_sound K hE R2 (S2.relE K R1 r1) r2 q)))
theorem x_ifE {B:PT Bool} {P R:PT V} {test body orelse:Expr} {pos:Pos} (h:SoundB C k sc B test) (hb:SoundEX X C k sc P body) (ho:SoundEX X C k sc R orelse):SoundEX X C k sc (ptIfE B P R) (.IfExp test body orelse pos):= .mk fun env A σ s Q hs hx hE hL hR q=>
 wpAny_IfExp (h.bind hs hE hL hR q fun b s₁ σ₁ R1 S1 v1 q=>onB q (fun q=>backE S1 v1 (hb.go env A σ₁ s₁ Q hs hx hE hL R1 q)) fun q=>backE S1 v1 (ho.go env A σ₁ s₁ Q hs hx hE hL R1 q))
structure Cl where
 a:Addr
 o:Obj
 c:Addr
 oc:Obj
 clos:List (Str×Addr)
 vals:Str→Option V
structure ClOk (L:Cl):Prop where
 apart:L.clos.Pairwise fun x y=>x.2≠y.2
 keys:(L.clos.map (·.1)).Nodup
 fn: ∃fd,L.o.data= .func fd
noncomputable def FrameOf (L:Cl) (env:Env):Prop:= ∀x c,(x,c)∈L.clos→env.cells.lookup x=some c
theorem FrameOf.own {L:Cl} (O:ClOk L) (h:env.cells=L.clos):FrameOf L env:=fun x c m=>by rw[h];exact lookup_of_mem_nodup O.keys m
noncomputable def ClSound (C:Ctx) (k:Nat) (L:Cl) (T:Con):Prop:=
 ∀(A:Around) (σ:St) (s:Shared) (Q:V→St→Prop) (ds:List V) (vs:List Value),Lim k A→RelG C σ s→s.heap.get? L.a=some L.o→s.heap.get? L.c=some L.oc→C.base.get? L.a=none→C.base.get? L.c=none→
  Caps C L.clos L.vals s.heap→RelVs C s.heap ds vs→T ds Q σ→wpAny (model C.prog C.w) A (call (.ref L.a) vs) (PostG C σ s Q) NoE s
inductive KnowAt (sc:Scope) (L:Cl) (σ:St) (x:Str):Prop
 |mk (j:Nat) (kd:NameKind) (v:V) (h1:sc.names[j]? =some (x,kd)) (h2:kd≠ .local) (h3:σ.vars j=some v) (h4:L.vals x=some v):KnowAt sc L σ x
structure Knows (sc:Scope) (L:Cl) (σ:St):Prop where
 fn:σ.ro L.a=some L.o
 code:σ.ro L.c=some L.oc
 caps: ∀x c,(x,c)∈L.clos→KnowAt sc L σ x
noncomputable def ptCallX (sc:Scope) (L:Cl) (i:Nat) (T:Con) (Ps:List (PT V)):PT V:=fun Q σ=>σ.vars i=some (.fn L.a)∧Knows sc L σ∧
 ptArgs Ps (fun xs σ₁=>Knows sc L σ₁∧T xs (fun x σ₂=>Q x ⟨σ₁.vars,σ₂.lists,σ₁.ro⟩) σ₁) σ
theorem Knows.cap {L:Cl} (kn:Knows sc L σ) (O:ClOk L) (hs:env.scope=sc) (hx:FrameOf L env) (hE:EnvOk C env) (R:Rel C env σ s):Caps C L.clos L.vals s.heap:=⟨O.apart,fun y c hc=>
 (kn.caps y c hc).casesOn fun j kd v g1 g2 g3 g4=>R.vars.elim fun m z=>(z.2 j v g3).on (hs▸g1) fun val e2 _ e4=>(e4 g2).elim fun c' w=>by
  cases Option.some.inj ((hx y c hc).symm.trans w.1)
  exact ⟨hE.cfresh y c (PySem.mem_of_lookup (hx y c hc)),v,val,g4,e2,w.2⟩⟩
theorem x_call (K:CtxOk C) {L:Cl} (O:ClOk L) {T:Con} (hT:ClSound C k L T) {x:Str} {i:Nat} {np pos:Pos} {P:PT V} {Ps:List (PT V)} {e:Expr} {es:List Expr}
  (hn:SoundE C k sc (ptVar i) (.Name x np)) (ha:SoundEs C k sc (P::Ps) (e::es)):SoundEX (FrameOf L) C k sc (ptCallX sc L i T (P::Ps)) (.Call (.Name x np) (e::es) [] pos):= .mk fun env A σ s Q hs hx hE hL hR q=>
 wpAny_Call_NameR (hn.bind (Q:=fun d σ₁=>d= .fn L.a∧ptArgs (P::Ps) (fun xs σ₁=>Knows sc L σ₁∧T xs (fun x σ₂=>Q x ⟨σ₁.vars,σ₂.lists,σ₁.ro⟩) σ₁) σ₁) hs hE hL hR ⟨_,q.1,rfl,q.2.2⟩ fun v s₁ d σ₁ r1 R1 S1 v1 q=>by
  cases rel_fn (q.1▸r1)
  exact O.fn.elim fun fd hdat=>callWith_def hdat (wpL (args_sound K ha hs hE hL R1 q.2) fun vs s₂ xs σ₂ r2 R2 S2 v2 q=>
   (R2.ro _ _ q.1.fn).casesOn fun h1 _ _ _ b1=>(R2.ro _ _ q.1.code).casesOn fun h2 _ _ _ b2=>⟨h1,wpAny_mono (hT A σ₂ s₂ _ xs vs hL R2.g h1 h2 b1 b2 (q.1.cap O hs hx hE R2) r2 q.2) (fun v s₃ p=>p.casesOn fun y σ₃ r3 R3 S3 v3 ro3 q=>
    ⟨y,_,r3,R2.after K hE R3 S3,(S1.transE S2).transE ⟨S3.kept,S3.there,S3.dom,S3.mono,fun _ _ _=> .inl rfl⟩,v2.trans v1,q⟩) fun _ _ x=>x⟩) (ha.hd env))
theorem ClSound.weak {L:Cl} {T T':Con} (h:ClSound C k L T) (w: ∀ds Q σ,T' ds Q σ→T ds Q σ):ClSound C k L T':=fun A σ s Q ds vs hL hR a b c d e r q=>h A σ s Q ds vs hL hR a b c d e r (w ds Q σ q)
noncomputable def clCon (scope:Scope) (L:Cl) (n:Nat) (P:PT Fl):Con:=fun ds Q σ=>ds.length=n∧P (fnK Q σ) (inSt scope L.clos n ds L.vals σ L.a L.o L.c L.oc)
theorem cl_sound (K:CtxOk C) (T0:TopOk C) {L:Cl} (O':ClOk L) {name qual:Str} {params:Arguments} {body:List Stmt} {scope:Scope} {n:Nat} {P:PT Fl} (I:IsIn C name qual params body scope L.clos L.o L.oc L.c) (O:InOk C params scope n)
  (hbind: ∀doc pm ct (vs:List Value),vs.length=n→bindArgs (fnX name qual params body scope L.clos .none .none doc pm none (.ref L.c) ct) ⟨vs,[]⟩=pure ((params.args.map (·.arg)).zip vs))
  (hP:SoundSX (FrameOf L) C k scope P body):ClSound C (k+1) L (clCon scope L n P):=fun A σ s Q ds vs hL hR ha hc ba bc cp r q=>
 inner_sound K T0 I O hbind (fun env A σ s Q hs hx hE hL hR q=>hP.go env A σ s Q hs (FrameOf.own O' hx) hE hL hR q) hL hR ha hc ba bc cp r q.1 q.2
end
end
section
open PySem PySem.Spec PySem.Calls PyProof.Rows PySem.W
noncomputable def nd4:Stmt:=nth (.Pass ⟨0,0,0,0⟩) (fdBody (st 4)) 1
noncomputable def nd5:Stmt:=nth (.Pass ⟨0,0,0,0⟩) (fdBody (st 5)) 0
noncomputable abbrev In4:Scope:=fdScope nd4
noncomputable abbrev In5:Scope:=fdScope nd5
noncomputable abbrev Sc_int2digits:Scope:=fdScope (st 4)
noncomputable abbrev Sc_digits2int:Scope:=fdScope (st 5)
theorem In4_0:NameOk In4 0 (Str.ofString "x") .local:= .of (by kernel_rfl)
theorem In4_1:NameOk In4 1 (Str.ofString "L") .local:= .of (by kernel_rfl)
theorem In4_2:NameOk In4 2 (Str.ofString "R") .local:= .of (by kernel_rfl)
theorem In4_3:NameOk In4 3 (Str.ofString "mid") .local:= .of (by kernel_rfl)
theorem In4_4:NameOk In4 4 (Str.ofString "shift") .local:= .of (by kernel_rfl)
theorem In4_5:NameOk In4 5 (Str.ofString "upper") .local:= .of (by kernel_rfl)
theorem In4_6:NameOk In4 6 (Str.ofString "lower") .local:= .of (by kernel_rfl)
theorem In4_7:NameOk In4 7 (Str.ofString "a_digits") .free:= .of (by kernel_rfl)
theorem In4_8:NameOk In4 8 (Str.ofString "inner") .free:= .of (by kernel_rfl)
theorem In4_9:NameOk In4 9 (Str.ofString "n") .free:= .of (by kernel_rfl)
theorem In5_0:NameOk In5 0 (Str.ofString "L") .local:= .of (by kernel_rfl)
theorem In5_1:NameOk In5 1 (Str.ofString "R") .local:= .of (by kernel_rfl)
theorem In5_2:NameOk In5 2 (Str.ofString "mid") .local:= .of (by kernel_rfl)
theorem In5_3:NameOk In5 3 (Str.ofString "shift") .local:= .of (by kernel_rfl)
theorem In5_4:NameOk In5 4 (Str.ofString "digits") .free:= .of (by kernel_rfl)
theorem In5_5:NameOk In5 5 (Str.ofString "inner") .free:= .of (by kernel_rfl)
theorem In5_6:NameOk In5 6 (Str.ofString "n") .free:= .of (by kernel_rfl)
theorem Sc_int2digits_0:NameOk Sc_int2digits 0 (Str.ofString "a") .local:= .of (by kernel_rfl)
theorem Sc_int2digits_1:NameOk Sc_int2digits 1 (Str.ofString "n") .cell:= .of (by kernel_rfl)
theorem Sc_int2digits_2:NameOk Sc_int2digits 2 (Str.ofString "a_digits") .cell:= .of (by kernel_rfl)
theorem Sc_int2digits_3:NameOk Sc_int2digits 3 (Str.ofString "inner") .cell:= .of (by kernel_rfl)
theorem Sc_int2digits_4:NameOk Sc_int2digits 4 (Str.ofString "len") .globalImplicit:= .of (by kernel_rfl)
theorem Sc_digits2int_0:NameOk Sc_digits2int 0 (Str.ofString "digits") .cell:= .of (by kernel_rfl)
theorem Sc_digits2int_1:NameOk Sc_digits2int 1 (Str.ofString "n") .cell:= .of (by kernel_rfl)
theorem Sc_digits2int_2:NameOk Sc_digits2int 2 (Str.ofString "inner") .cell:= .of (by kernel_rfl)
theorem Sc_digits2int_3:NameOk Sc_digits2int 3 (Str.ofString "len") .globalImplicit:= .of (by kernel_rfl)
section
variable {C:Ctx} {k:Nat}
noncomputable def W_in4 (W:Wk C) {L:Cl} (O:ClOk L) {T:Con} (hT:ClSound C k L T):{P:PT Fl // SoundSX (FrameOf L) C k In4 P (fdBody nd4)}:=⟨_,
(x_cons (Sound1.x (s_if (s_cmpB W.K (s_bin W.K (v_loc 1 In4_1) s_int) (v_loc 2 In4_2) rfl)
(s_cons (v_asg1 W (a_sub W.K (v_fre 7 In4_7) (v_loc 1 In4_1)) (v_loc 0 In4_0) rfl rfl rfl)
(s_cons s_retNone
s_nil))
s_nil))
(x_cons (Sound1.x (v_asg1 W (v_an W 3 In4_3) (s_bin W.K (s_bin W.K (v_loc 1 In4_1) (v_loc 2 In4_2)) s_int) rfl rfl rfl))
(x_cons (Sound1.x (v_asg1 W (v_an W 4 In4_4) (s_bin W.K (s_bin W.K (v_loc 3 In4_3) (v_loc 1 In4_1)) (v_fre 9 In4_9)) rfl rfl rfl))
(x_cons (Sound1.x (v_asg1 W (v_an W 5 In4_5) (s_bin W.K (v_loc 0 In4_0) (v_loc 4 In4_4)) rfl rfl rfl))
(x_cons (Sound1.x (v_asg1 W (v_an W 6 In4_6) (s_bin W.K (v_loc 0 In4_0) (s_bin W.K (v_loc 5 In4_5) (v_loc 4 In4_4))) rfl rfl rfl))
(x_cons (x_expr (x_call W.K O hT (v_fre 8 In4_8) (.c (v_loc 6 In4_6) rfl (.c (v_loc 1 In4_1) rfl (.c (v_loc 3 In4_3) rfl .nil)))) (fun env=>rfl))
(x_cons (x_expr (x_call W.K O hT (v_fre 8 In4_8) (.c (v_loc 5 In4_5) rfl (.c (v_loc 3 In4_3) rfl (.c (v_loc 2 In4_2) rfl .nil)))) (fun env=>rfl))
x_nil)))))))⟩
noncomputable def W_in5 (W:Wk C) {L:Cl} (O:ClOk L) {T:Con} (hT:ClSound C k L T):{P:PT Fl // SoundSX (FrameOf L) C k In5 P (fdBody nd5)}:=⟨_,
(x_cons (Sound1.x (s_if (s_cmpB W.K (s_bin W.K (v_loc 0 In5_0) s_int) (v_loc 1 In5_1) rfl)
(s_cons (s_ret (v_it W (v_fre 4 In5_4) (v_loc 0 In5_0) rfl))
s_nil)
s_nil))
(x_cons (Sound1.x (v_asg1 W (v_an W 2 In5_2) (s_bin W.K (s_bin W.K (v_loc 0 In5_0) (v_loc 1 In5_1)) s_int) rfl rfl rfl))
(x_cons (Sound1.x (v_asg1 W (v_an W 3 In5_3) (s_bin W.K (s_bin W.K (v_loc 2 In5_2) (v_loc 0 In5_0)) (v_fre 6 In5_6)) rfl rfl rfl))
(x_cons (x_ret (x_bin W.K (x_bin W.K (x_call W.K O hT (v_fre 5 In5_5) (.c (v_loc 2 In5_2) rfl (.c (v_loc 1 In5_1) rfl .nil))) (v_loc 3 In5_3).x) (x_call W.K O hT (v_fre 5 In5_5) (.c (v_loc 0 In5_0) rfl (.c (v_loc 2 In5_2) rfl .nil)))))
x_nil))))⟩
noncomputable def W_i2d0 (W:Wk C):{P:PT Fl // Sound1 C k Sc_int2digits P (nth (.Pass ⟨0,0,0,0⟩) (fdBody (st 4)) 0)}:=⟨_,
(v_asg1 W (v_ac W 2 Sc_int2digits_2) (s_bin W.K (s_list W.K (.c s_int rfl .nil)) (s_bin W.K (s_bin W.K (s_bin W.K (v_m0 W .bitlen (v_loc 0 Sc_int2digits_0) rfl rfl rfl) (v_cel 1 Sc_int2digits_1)) s_int) (v_cel 1 Sc_int2digits_1))) rfl rfl rfl)⟩
noncomputable def W_i2d2 (W:Wk C) {L:Cl} (O:ClOk L) {T:Con} (hT:ClSound C k L T):{P:PT Fl // SoundSX (FrameOf L) C k Sc_int2digits P ((fdBody (st 4)).drop 2)}:=⟨_,
(x_cons (x_if (v_t (v_loc 0 Sc_int2digits_0) rfl)
(x_cons (x_expr (x_call W.K O hT (v_cel 3 Sc_int2digits_3) (.c (v_loc 0 Sc_int2digits_0) rfl (.c s_int rfl (.c (v_bi W .len W.m_len W.b_len Sc_int2digits_4 (.c (v_cel 2 Sc_int2digits_2) rfl .nil)) rfl .nil)))) (fun env=>rfl))
x_nil)
x_nil)
(x_cons (Sound1.x (s_ret (v_cel 2 Sc_int2digits_2)))
x_nil))⟩
noncomputable def W_d2i1 (W:Wk C) {L:Cl} (O:ClOk L) {T:Con} (hT:ClSound C k L T):{P:PT Fl // SoundSX (FrameOf L) C k Sc_digits2int P ((fdBody (st 5)).drop 1)}:=⟨_,
(x_cons (x_ret (x_ifE (v_t (v_cel 0 Sc_digits2int_0) rfl) (x_call W.K O hT (v_cel 2 Sc_digits2int_2) (.c s_int rfl (.c (v_bi W .len W.m_len W.b_len Sc_digits2int_3 (.c (v_cel 0 Sc_digits2int_0) rfl .nil)) rfl .nil))) s_int.x))
x_nil)⟩
end
end
section
open PySem PyProof.Rows
theorem n_fdiv (X Y:Nat):((X:Int)).fdiv (Y:Int)=((X/Y:Nat):Int):=by
 rw[Int.fdiv_eq_ediv_of_nonneg _ (by lia)];exact (Int.natCast_ediv X Y).symm
theorem n_fmod (X Y:Nat):((X:Int)).fmod (Y:Int)=((X%Y:Nat):Int):=by
 rw[Int.fmod_eq_emod_of_nonneg _ (by lia)];exact (Int.natCast_emod X Y).symm
theorem n_pow (k:Nat):(2:Int)^k=((2^k:Nat):Int):=(Int.natCast_pow 2 k).symm
theorem n_shr (X k:Nat):((X:Int)).fdiv (2^k)=((X/2^k:Nat):Int):=by rw[n_pow,n_fdiv]
theorem n_shl (X k:Nat):(X:Int)*2^k=((X*2^k:Nat):Int):=by rw[n_pow];exact (Int.natCast_mul X (2^k)).symm
theorem n_and (X Y:Nat):Builtin.bitAnd (X:Int) (Y:Int)=((X &&& Y:Nat):Int):=by
 unfold Builtin.bitAnd
 simp
theorem n_mask (X k:Nat):Builtin.bitAnd (X:Int) (2^k-1)=((X%2^k:Nat):Int):=by
 have h:(2:Int)^k-1=((2^k-1:Nat):Int):=by
  have:0<2^k:=Nat.two_pow_pos k
  rw[n_pow];lia
 rw[h,n_and,Nat.and_two_pow_sub_one_eq_mod]
theorem n_or {Y k:Nat} (X:Nat) (h:Y<2^k):Builtin.bitOr ((X*2^k:Nat):Int) (Y:Int)=((X*2^k+Y:Nat):Int):=by
 rw[bitOr_and,n_and]
 have:(X*2^k) &&& Y=0:=by
  apply Nat.eq_of_testBit_eq
  intro i
  rw[←Nat.shiftLeft_eq]
  simp only[Nat.testBit_and,Nat.testBit_shiftLeft,Nat.zero_testBit]
  by_cases c:i≥k
  ·have:Y.testBit i=false:=Nat.testBit_lt_two_pow (Nat.lt_of_lt_of_le h (Nat.pow_le_pow_right (by decide) c))
   simp[this]
  ·simp[c]
 rw[this]
 lia
theorem n_xor (X k:Nat):Builtin.bitXor (X:Int) ((X/2^k*2^k:Nat):Int)=((X%2^k:Nat):Int):=by
 rw[bitXor_and,n_and]
 have h:X &&& (X/2^k*2^k)=X/2^k*2^k:=by
  apply Nat.eq_of_testBit_eq
  intro i
  rw[←Nat.shiftRight_eq_div_pow,←Nat.shiftLeft_eq]
  simp only[Nat.testBit_and,Nat.testBit_shiftLeft,Nat.testBit_shiftRight]
  by_cases c:i≥k
  ·have:k+(i-k)=i:=by lia
   simp[c,this]
  ·simp[c]
 rw[h]
 have:=Nat.div_add_mod' X (2^k)
 lia
theorem n_bits {X m:Nat}:Builtin.Int.intBits (X:Int)≤m↔X<2^m:=by
 rw[intBits_le_iff];simp
end
section
open PySem PySem.Spec PySem.Calls PyProof.Rows PySem.W
section
variable {C:Ctx} {σ:St} {Q:V→St→Prop} {QB:Bool→St→Prop} {QF:Fl→St→Prop} {QA:St→Prop} {QL:List V→St→Prop} {P R T:PT V} {B:PT Bool} {F G:PT Fl}
theorem o_addE {a b c:Int} (h:a+b=c) (q:Q (.int c) σ):opPT .Add (.int a) (.int b) Q σ:=by subst h;exact .addI q
theorem o_subE {a b c:Int} (h:a-b=c) (q:Q (.int c) σ):opPT .Sub (.int a) (.int b) Q σ:=by subst h;exact .sub q
theorem o_mulE {a b c:Int} (h:a*b=c) (m:IntMulOk a b) (q:Q (.int c) σ):opPT .Mult (.int a) (.int b) Q σ:=by subst h;exact .mulI m q
theorem o_divE {a b c:Int} (h:a.fdiv b=c) (h1:b≠0) (h2:b.natAbs<1073741824) (q:Q (.int c) σ):opPT .FloorDiv (.int a) (.int b) Q σ:=by subst h;exact .div h1 h2 q
theorem o_modE {a b c:Int} (h:a.fmod b=c) (h1:b≠0) (q:Q (.int c) σ):opPT .Mod (.int a) (.int b) Q σ:=by subst h;exact .mod h1 q
theorem o_shrE {a c:Int} {n:Nat} (h:a.fdiv (2^n)=c) (q:Q (.int c) σ):opPT .RShift (.int a) (.int (n:Int)) Q σ:=by
 subst h;exact .shr (Int.natCast_nonneg n) q
theorem shl_n {a n:Nat} (h:a+n≤2^27):(a:Int)+n≤2^27:=by lia
theorem o_shlE {a c:Int} {n:Nat} (h:a*2^n=c) (h1:Builtin.Int.intBits a+n≤2^27) (q:Q (.int c) σ):opPT .LShift (.int a) (.int (n:Int)) Q σ:=by
 subst h;exact .shl (Int.natCast_nonneg n) (shl_n h1) q
theorem o_andE {a b c:Int} (h:Builtin.bitAnd a b=c) (q:Q (.int c) σ):opPT .BitAnd (.int a) (.int b) Q σ:=by subst h;exact .and q
theorem o_orE {a b c:Int} (h:Builtin.bitOr a b=c) (q:Q (.int c) σ):opPT .BitOr (.int a) (.int b) Q σ:=by subst h;exact .or q
theorem o_xorE {a b c:Int} (h:Builtin.bitXor a b=c) (q:Q (.int c) σ):opPT .BitXor (.int a) (.int b) Q σ:=by subst h;exact .xor q
theorem i_add {a b c:Int} (h:a+b=c) (q:Q (.int c) σ):ipPT .Add (.int a) (.int b) Q σ:=by subst h;exact .addI q
theorem i_sub {a b c:Int} (h:a-b=c) (q:Q (.int c) σ):ipPT .Sub (.int a) (.int b) Q σ:=by subst h;exact .sub q
theorem i_shl {a c:Int} {n:Nat} (h:a*2^n=c) (h1:Builtin.Int.intBits a+n≤2^27) (q:Q (.int c) σ):ipPT .LShift (.int a) (.int (n:Int)) Q σ:=by
 subst h;exact .shl (Int.natCast_nonneg n) (shl_n h1) q
theorem i_shr {a c:Int} {n:Nat} (h:a.fdiv (2^n)=c) (q:Q (.int c) σ):ipPT .RShift (.int a) (.int (n:Int)) Q σ:=by
 subst h;exact .shr (Int.natCast_nonneg n) q
theorem c_eqT {a b:Int} (h:a=b) (q:QB true σ):cmpPT .Eq (.int a) (.int b) QB σ:= .eqI (by rw[decide_eq_true h];exact q)
theorem c_eqF {a b:Int} (h:a≠b) (q:QB false σ):cmpPT .Eq (.int a) (.int b) QB σ:= .eqI (by rw[decide_eq_false h];exact q)
theorem c_ltT {a b:Int} (h:a<b) (q:QB true σ):cmpPT .Lt (.int a) (.int b) QB σ:= .lt (by rw[decide_eq_true h];exact q)
theorem c_ltF {a b:Int} (h:b≤a) (q:QB false σ):cmpPT .Lt (.int a) (.int b) QB σ:= .lt (by rw[decide_eq_false (Int.not_lt.mpr h)];exact q)
theorem c_leT {a b:Int} (h:a≤b) (q:QB true σ):cmpPT .LtE (.int a) (.int b) QB σ:= .le (by rw[decide_eq_true h];exact q)
theorem c_leF {a b:Int} (h:b<a) (q:QB false σ):cmpPT .LtE (.int a) (.int b) QB σ:= .le (by rw[decide_eq_false (Int.not_le.mpr h)];exact q)
theorem c_gtT {a b:Int} (h:b<a) (q:QB true σ):cmpPT .Gt (.int a) (.int b) QB σ:= .gt (by rw[decide_eq_true h];exact q)
theorem c_gtF {a b:Int} (h:a≤b) (q:QB false σ):cmpPT .Gt (.int a) (.int b) QB σ:= .gt (by rw[decide_eq_false (Int.not_lt.mpr h)];exact q)
theorem t_intT {a:Int} (h:a≠0) (q:QB true σ):tPT (.int a) QB σ:= .int (by rw[decide_eq_true h];exact q)
theorem t_intF {a:Int} (h:a=0) (q:QB false σ):tPT (.int a) QB σ:= .int (by rw[decide_eq_false (fun n=>n h)];exact q)
theorem sit_lst {a:Addr} {i:Nat} {y:V} {xs:List V} (h:σ.lists a=some xs) (hi:i<xs.length) (hz:xs.length≤sizeLine) (q:QA (setL σ a (xs.set i y))):sitPT (.lst a) (.int (i:Int)) y QA σ:= .mk h (Int.natCast_nonneg i) hi hz q
theorem idx_nn {i n:Nat} (h:i<n):seqIndex? (i:Int) n=some i:=seqIndex_nn (Int.natCast_nonneg i) (by rw[Int.toNat_natCast];exact h)
theorem fits_nn {i:Nat} (hz:(i:Int)<2^63):fitsI (i:Int):=⟨by lia,hz⟩
theorem it_lst {a:Addr} {i:Nat} {y:V} {xs:List V} (h:σ.lists a=some xs) (hy:xs[i]? =some y) (hz:(i:Int)<2^63) (q:Q y σ):itPT (.lst a) (.int (i:Int)) Q σ:=
 .lst h (fits_nn hz) (idx_nn (List.getElem?_eq_some_iff.mp hy).1) hy q
theorem bi_len {a:Addr} {xs:List V} (h:σ.lists a=some xs) (hz:xs.length≤sizeLine) (q:Q (.int (xs.length:Int)) σ):biPT .len [.lst a] Q σ:= .lenL h hz q
theorem p_callX {sc:Scope} {L:Cl} {i:Nat} {T:Con} {Ps:List (PT V)} (h:σ.vars i=some (.fn L.a)) (kn:Knows sc L σ) (q:ptArgs Ps (fun xs σ₁=>Knows sc L σ₁∧T xs (fun x σ₂=>Q x ⟨σ₁.vars,σ₂.lists,σ₁.ro⟩) σ₁) σ):ptCallX sc L i T Ps Q σ:=⟨h,kn,q⟩
theorem mulOk {a b:Int} {m:Nat} (h:Builtin.Int.intBits a+Builtin.Int.intBits b≤2^27):IntMulOk a b:=fun c=>
 absurd h (Nat.not_le.mpr (Int.ofNat_lt.mp ((Int.natCast_add _ _).symm▸of_decide_eq_true (and_t c).2)))
end
end
open PySem PySem.Spec PySem.Calls PyProof.Rows PySem.W
set_option hygiene false in
local macro_rules | `(tactic| walk_at "mine") => `(tactic| first
 |((with_reducible refine p_varQ ?_);first|refine ⟨_,rfl,?_⟩|refine ⟨_,by assumption,?_⟩)
 |with_reducible first
  |refine p_seqK ?_
  |refine k_next ?_
  |refine k_ret ?_
  |refine k_fn ?_
  |refine k_forN ?_
  |refine k_forC ?_
  |refine k_forB ?_
  |refine k_forR ?_
  |refine k_brk ?_
  |refine k_cont ?_
  |refine p_if ?_
  |refine t_then ?_
  |refine t_else ?_
  |refine t_nthen ?_
  |refine t_nelse ?_
  |refine p_ret ?_
  |refine p_retN ?_
  |refine p_cmp ?_
  |refine p_int ?_
  |refine p_str ?_
  |refine p_none ?_
  |refine p_bool ?_
  |refine p_nil ?_
  |refine p_glob ?_
  |refine p_bin ?_
  |refine p_un ?_
  |refine p_not ?_
  |refine p_t ?_
  |refine p_notB ?_
  |refine p_ifE ?_
  |refine p_meth ?_
  |refine p_args0 ?_
  |refine p_args1 ?_
  |refine p_bi ?_
  |refine p_call ?_
  |refine p_it ?_
  |refine p_sl ?_
  |refine p_list ?_
  |refine p_tup ?_
  |refine p_asgs ?_
  |refine p_all0 ?_
  |refine p_all1 ?_
  |refine p_aname ?_
  |refine p_asub ?_
  |refine p_atup rfl ?_
  |refine p_seq0 ?_
  |refine p_seq1 ?_
  |refine p_expr ?_
  |refine p_augSub ?_
  |refine p_and0 ?_
  |refine p_asgComp ?_
  |refine t_bool ?_
  |refine p_ofB ?_
  |refine p_and1 ?_
  |refine p_or1 ?_
  |refine p_or0 ?_
  |refine p_swap ?_
  |refine p_swap2 ?_
  |refine p_for ?_
  |refine p_comp ?_
  |refine p_iL ?_
  |refine p_iR ?_
  |refine p_iS ?_
  |refine p_rg ?_
  |refine p_lrg ?_
 |((with_reducible refine p_augQ ?_);first|refine ⟨_,rfl,?_⟩|refine ⟨_,by assumption,?_⟩)
 |refine ⟨True.intro,?_⟩)
set_option hygiene false in
local macro_rules | `(tactic| walk_at "a") => `(tactic| first
 |with_reducible first
  |assumption
  |exact Int.ofNat_lt.mpr (by assumption)
  |exact Int.ofNat_le.mpr (by assumption)
  |exact Int.ofNat_le.mpr (Nat.not_lt.mp (by assumption))
  |exact Int.ofNat_lt.mpr (Nat.not_le.mp (by assumption))
  |exact Nat.le_of_lt (by assumption)
  |exact Nat.not_lt.mp (by assumption)
  |exact Nat.not_le.mp (by assumption)
  |exact Nat.le_trans (by assumption) (by decide)
  |exact Nat.lt_of_le_of_lt (by assumption) (by decide)
  |exact Nat.lt_of_lt_of_le (by assumption) (by decide)
  |exact Nat.le_trans (Nat.le_of_lt (by assumption)) (by decide)
  |exact Int.lt_of_lt_of_le (Int.ofNat_lt.mpr (by assumption)) (by decide)
  |exact sub_int (by assumption)
  |exact sub_int (Nat.le_of_lt (by assumption))
  |decide
 |((with_reducible refine (?_:_=_));exact rfl)
 |lia)
set_option hygiene false in
local macro_rules | `(tactic| walk_at "s") => `(tactic| first
 |decide
 |((with_reducible refine (?_:_=_));exact rfl)
 |simp)
section
open PySem PySem.Spec PySem.Calls PyProof.Rows PySem.W
section
variable {C:Ctx} {k:Nat}
noncomputable def digs (n X m:Nat):List Nat:=(List.range m).map fun i=>X/2^(n*i)%2^n
noncomputable def nints (l:List Nat):List V:=l.map fun (d:Nat)=>V.int (d:Int)
noncomputable def wr (xs:List V) (lo:Nat) (ys:List V):List V:=xs.take lo++ys++xs.drop (lo+ys.length)
theorem digs_len (n X m:Nat):(digs n X m).length=m:=by unfold digs;simp
theorem nints_len (l:List Nat):(nints l).length=l.length:=by unfold nints;simp
theorem digs_split (n X a b:Nat):digs n X (a+b)=digs n (X%2^(n*a)) a++digs n (X/2^(n*a)) b:=by
 unfold digs
 rw[List.range_add,List.map_append,List.map_map]
 refine congr (congrArg _ ?_) ?_
 ·apply List.map_congr_left
  intro i hi
  have hi:i<a:=List.mem_range.mp hi
  have e:n*a=n*i+n*(a-i):=by rw[←Nat.mul_add];congr 1;lia
  have e2:n*(a-i)=n+n*(a-i-1):=by
   obtain ⟨b,hb⟩: ∃b,a-i=1+b:=⟨a-i-1,by lia⟩
   rw[hb,Nat.mul_add,Nat.mul_one]
   congr 2
   lia
  rw[e,Nat.pow_add,Nat.mod_mul,Nat.add_mul_div_left _ _ (Nat.two_pow_pos _),Nat.div_eq_of_lt (Nat.mod_lt _ (Nat.two_pow_pos _)),Nat.zero_add,e2,Nat.pow_add,Nat.mod_mul_right_mod]
 ·apply List.map_congr_left
  intro i hi
  show _=X/2^(n*a)/2^(n*i)%2^n
  rw[Nat.div_div_eq_div_mul,←Nat.pow_add,←Nat.mul_add];rfl
theorem wr_wr {xs ys zs:List V} {lo:Nat} (h:lo+ys.length≤xs.length):wr (wr xs lo ys) (lo+ys.length) zs=wr xs lo (ys++zs):=by
 have hlo:(xs.take lo).length=lo:=by rw[List.length_take];lia
 unfold wr
 have e:(xs.take lo++ys).length=lo+ys.length:=by rw[List.length_append,hlo]
 rw[List.take_append_of_le_length (by rw[e];exact Nat.le_refl _),List.take_of_length_le (by rw[e];exact Nat.le_refl _)]
 rw[List.drop_append,List.drop_of_length_le (by rw[e];lia),List.nil_append,List.drop_drop,e]
 simp only[List.append_assoc,List.length_append]
 congr 4
 lia
theorem wr_len {xs ys:List V} {lo:Nat} (h:lo+ys.length≤xs.length):(wr xs lo ys).length=xs.length:=by
 unfold wr
 simp only[List.length_append,List.length_take,List.length_drop]
 lia
theorem wr_one {xs:List V} {lo:Nat} {y:V} (h:lo<xs.length):xs.set lo y=wr xs lo [y]:=by
 unfold wr
 rw[List.set_eq_take_append_cons_drop,if_pos h]
 simp
theorem setL_setL {σ:St} {a:Addr} {xs ys:List V}:setL (setL σ a xs) a ys=setL σ a ys:=St.ext' rfl (funext fun b=>by
 by_cases q:b=a
 ·exact (if_pos q).trans (if_pos q).symm
 ·exact (if_neg q).trans ((if_neg q).trans (if_neg q).symm)) rfl
inductive T_in4 (L:Cl) (d:Nat) (ds:List V) (Q:V→St→Prop) (σ:St):Prop
 |mk (X lo hi n:Nat) (D:Addr) (xs:List V) (e:ds=[.int (X:Int),.int (lo:Int),.int (hi:Int)])
 (v1:L.vals (Str.ofString "a_digits")=some (.lst D)) (v2:L.vals (Str.ofString "n")=some (.int (n:Int))) (v3:L.vals (Str.ofString "inner")=some (.fn L.a)) (hl:σ.lists D=some xs)
 (hlt:lo<hi) (hle:hi≤xs.length) (hd:hi-lo≤2^d) (hX:X<2^(n*(hi-lo))) (hs1:n*xs.length≤2^25) (hs2:n≤2^25) (hs3:xs.length≤2^20) (q:Q .none (setL σ D (wr xs lo (nints (digs n X (hi-lo)))))):T_in4 L d ds Q σ
structure Sh4 (L:Cl):Prop where
 a:(L.clos.lookup (Str.ofString "a_digits")).isSome=true
 i:(L.clos.lookup (Str.ofString "inner")).isSome=true
 n:(L.clos.lookup (Str.ofString "n")).isSome=true
 only: ∀x c,(x,c)∈L.clos→x=Str.ofString "a_digits" ∨x=Str.ofString "inner" ∨x=Str.ofString "n"
 ne:L.a≠L.c
theorem free_get {L:Cl} {x:Str} {v:V} (h:(L.clos.lookup x).isSome=true) (e:L.vals x=some v):((L.clos.lookup x).bind fun _=>L.vals x)=some v:=
 (Option.isSome_iff_exists.mp h).elim fun c hc=>by rw[hc];exact e
theorem in_free {sc:Scope} {L:Cl} {n j:Nat} {ds:List V} {σ:St} {x:Str} {v:V} (h:NameOk sc j x .free) (hn: ¬j<n) (hx:(L.clos.lookup x).isSome=true) (e:L.vals x=some v):(inSt sc L.clos n ds L.vals σ L.a L.o L.c L.oc).vars j=some v:=
 (if_neg hn).trans (by rw[h.get];exact free_get hx e)
theorem in_knows {sc:Scope} {L:Cl} {n:Nat} {ds:List V} {σ:St} (ne:L.a≠L.c) (h: ∀x c,(x,c)∈L.clos→KnowAt sc L (inSt sc L.clos n ds L.vals σ L.a L.o L.c L.oc) x):Knows sc L (inSt sc L.clos n ds L.vals σ L.a L.o L.c L.oc):=
 ⟨if_pos rfl,(if_neg (Ne.symm ne)).trans (if_pos rfl),h⟩
theorem Knows.setV {sc:Scope} {L:Cl} {σ:St} {j:Nat} {x:Str} {v:V} (h:Knows sc L σ) (n:NameOk sc j x .local):Knows sc L (Mine.setV σ j v):=⟨h.fn,h.code,fun y c hc=>(h.caps y c hc).casesOn fun i kd u h1 h2 h3 h4=>
 ⟨i,kd,u,h1,h2,(if_neg fun q=>h2 (congrArg Prod.snd (Option.some.inj (h1.symm.trans (q▸n.get))))).trans h3,h4⟩⟩
theorem Knows.lst {sc:Scope} {L:Cl} {σ:St} {f:Addr→Option (List V)} (h:Knows sc L σ):Knows sc L ⟨σ.vars,f,σ.ro⟩:=⟨h.fn,h.code,fun y c hc=>(h.caps y c hc).casesOn fun i kd u h1 h2 h3 h4=>⟨i,kd,u,h1,h2,h3,h4⟩⟩
theorem digs_one {n X lo:Nat} (hX:X<2^(n*(lo+1-lo))):nints (digs n X (lo+1-lo))=[.int (X:Int)]:=by
 rw[Nat.add_sub_cancel_left,Nat.mul_one] at hX
 rw[Nat.add_sub_cancel_left]
 show [V.int ((X/2^(n*0)%2^n:Nat):Int)]=_
 rw[Nat.mul_zero,Nat.pow_zero,Nat.div_one,Nat.mod_eq_of_lt hX]
theorem digs_two {xs:List V} {n X lo m hi:Nat} (h1:lo<m) (h2:m<hi) (h3:hi≤xs.length):
  wr (wr xs lo (nints (digs n (X%2^(n*(m-lo))) (m-lo)))) m (nints (digs n (X/2^(n*(m-lo))) (hi-m)))=wr xs lo (nints (digs n X (hi-lo))):=by
 have e:=wr_wr (xs:=xs) (lo:=lo) (ys:=nints (digs n (X%2^(n*(m-lo))) (m-lo))) (zs:=nints (digs n (X/2^(n*(m-lo))) (hi-m))) (by rw[nints_len,digs_len];lia)
 rw[nints_len,digs_len,Nat.add_sub_cancel' (Nat.le_of_lt h1)] at e
 rw[e,show hi-lo=(m-lo)+(hi-m) by lia,digs_split]
 unfold nints
 rw[List.map_append]
theorem half_of {a m:Nat} (hm:m=a/2):2*m≤a∧a<2*(m+1):=hm▸⟨Nat.mul_div_le a 2,Nat.lt_mul_div_succ a (by decide)⟩
theorem in4_mid {lo hi m d:Nat} (hlt:lo<hi) (c:hi≠lo+1) (hd:hi-lo≤2^d) (hm:m=(lo+hi)/2):lo<m∧m<hi∧ ∃d',d=d'+1∧m-lo≤2^d'∧hi-m≤2^d':=by
 have h:=half_of hm
 clear hm
 cases d with
 |zero=>exact absurd hd (by lia)
 |succ d=>rw[Nat.pow_succ] at hd;exact ⟨by lia,by lia,d,rfl,by lia,by lia⟩
theorem in4_hi {X n lo m hi:Nat} (m1:lo<m) (m2:m<hi) (hX:X<2^(n*(hi-lo))):X/2^(n*(m-lo))<2^(n*(hi-m)):=by
 rw[Nat.div_lt_iff_lt_mul (Nat.two_pow_pos _),←Nat.pow_add,←Nat.mul_add,show hi-m+(m-lo)=hi-lo by lia];exact hX
theorem in4_bits {X n lo m hi l:Nat} (m2:m<hi) (h3:hi≤l) (hX:X<2^(n*(hi-lo))) (hs:n*l≤2^25):Builtin.Int.intBits ((X/2^(n*(m-lo)):Nat):Int)+n*(m-lo)≤2^27:=by
 have h1:Builtin.Int.intBits ((X/2^(n*(m-lo)):Nat):Int)≤n*(hi-lo):=n_bits.mpr (Nat.lt_of_le_of_lt (Nat.div_le_self _ _) hX)
 have h2:n*(hi-lo)≤n*l:=Nat.mul_le_mul_left n (by lia)
 have h4:n*(m-lo)≤n*l:=Nat.mul_le_mul_left n (by lia)
 lia
theorem len_size {n:Nat} (h:n≤2^20):n≤sizeLine:=Nat.le_trans h (Nat.le_of_ble_eq_true rfl)
theorem sub_int {a b:Nat} (h:b≤a):(a:Int)-(b:Int)=((a-b:Nat):Int):=(Int.ofNat_sub h).symm
theorem idx63 {i n:Nat} (h:i<n) (hn:n≤2^20):(i:Int)<2^63:=by lia
theorem bits20 {n:Nat} (hn:n≤2^20):Builtin.Int.intBits (n:Int)≤64:=n_bits.mpr (Nat.lt_of_le_of_lt hn (by decide))
theorem con_in4 (W:Wk C) {L:Cl} (O:ClOk L) (S:Sh4 L) {d:Nat} {T:Con} (hT:ClSound C k L T) (hw: ∀d',d=d'+1→T=T_in4 L d') (ds:List V) (Q:V→St→Prop) (σ:St) (h:T_in4 L d ds Q σ):
  clCon In4 L 3 (W_in4 W O hT).1 ds Q σ:=by
 obtain ⟨X,lo,hi,n,D,xs,rfl,v1,v2,v3,hl,hlt,hle,hd,hX,hs1,hs2,hs3,q⟩:=h
 refine ⟨rfl,?_⟩
 have w7:(inSt In4 L.clos 3 [.int (X:Int),.int (lo:Int),.int (hi:Int)] L.vals σ L.a L.o L.c L.oc).vars 7=_:=in_free In4_7 (by decide) S.a v1
 have w8:(inSt In4 L.clos 3 [.int (X:Int),.int (lo:Int),.int (hi:Int)] L.vals σ L.a L.o L.c L.oc).vars 8=_:=in_free In4_8 (by decide) S.i v3
 have w9:(inSt In4 L.clos 3 [.int (X:Int),.int (lo:Int),.int (hi:Int)] L.vals σ L.a L.o L.c L.oc).vars 9=_:=in_free In4_9 (by decide) S.n v2
 have kn:=in_knows (sc:=In4) (n:=3) (ds:=[.int (X:Int),.int (lo:Int),.int (hi:Int)]) (σ:=σ) S.ne fun x c hx=>(S.only x c hx).elim (fun e=>e▸⟨7,_,_,In4_7.get,by decide,w7,v1⟩) fun e=>e.elim (fun e=>e▸⟨8,_,_,In4_8.get,by decide,w8,v3⟩) fun e=>e▸⟨9,_,_,In4_9.get,by decide,w9,v2⟩
 have w0:(inSt In4 L.clos 3 [.int (X:Int),.int (lo:Int),.int (hi:Int)] L.vals σ L.a L.o L.c L.oc).vars 0=some (.int (X:Int)):=rfl
 have w1:(inSt In4 L.clos 3 [.int (X:Int),.int (lo:Int),.int (hi:Int)] L.vals σ L.a L.o L.c L.oc).vars 1=some (.int (lo:Int)):=rfl
 have w2:(inSt In4 L.clos 3 [.int (X:Int),.int (lo:Int),.int (hi:Int)] L.vals σ L.a L.o L.c L.oc).vars 2=some (.int (hi:Int)):=rfl
 replace hl:(inSt In4 L.clos 3 [.int (X:Int),.int (lo:Int),.int (hi:Int)] L.vals σ L.a L.o L.c L.oc).lists D=some xs:=hl
 replace q:Q .none ⟨σ.vars,(setL (inSt In4 L.clos 3 [.int (X:Int),.int (lo:Int),.int (hi:Int)] L.vals σ L.a L.o L.c L.oc) D (wr xs lo (nints (digs n X (hi-lo))))).lists,σ.ro⟩:=q
 revert w0 w1 w2 w7 w8 w9 kn hl q
 generalize inSt In4 L.clos 3 [.int (X:Int),.int (lo:Int),.int (hi:Int)] L.vals σ L.a L.o L.c L.oc=τ
 intro w7 w8 w9 kn w0 w1 w2 hl q
 clear S
 unfold W_in4
 repeat walk_at "mine"
 refine o_add ?_
 repeat walk_at "mine"
 by_cases c:hi=lo+1
 ·subst c
  refine c_eqT rfl ?_
  repeat walk_at "mine"
  refine sit_lst (i:=lo) hl hle (len_size hs3) ?_
  repeat walk_at "mine"
  rw[digs_one hX,←wr_one hle] at q
  exact q
 ·refine c_eqF (fun z=>c (Int.ofNat_inj.mp z.symm)) ?_
  repeat walk_at "mine"
  obtain ⟨m,hm⟩: ∃m,m=(lo+hi)/2:=⟨_,rfl⟩
  obtain ⟨m1,m2,d',rfl,hd1,hd2⟩:=in4_mid hlt c hd hm
  have:=hw d' rfl
  subst this
  clear hlt c hd hw
  refine o_add ?_
  repeat walk_at "mine"
  refine o_shrE (n:=1) (c:=(m:Int)) (by rw[←Int.natCast_add,n_shr,hm]) ?_
  clear hm
  repeat walk_at "mine"
  refine o_subE (sub_int (Nat.le_of_lt m1)) ?_
  repeat walk_at "mine"
  refine o_mulE (c:=((n*(m-lo):Nat):Int)) (by rw[Nat.mul_comm,Int.natCast_mul]) (IntMulOk.of_left (bits20 (Nat.le_trans (Nat.sub_le _ _) (Nat.le_trans (Nat.le_of_lt m2) (Nat.le_trans hle hs3))))) ?_
  repeat walk_at "mine"
  refine o_shrE (n_shr _ _) ?_
  repeat walk_at "mine"
  refine o_shlE (n_shl _ _) (in4_bits m2 hle hX hs1) ?_
  refine o_xorE (n_xor _ _) ?_
  repeat walk_at "mine"
  replace kn:=((((kn.setV In4_3 (v:= .int (m:Int))).setV In4_4 (v:= .int ((n*(m-lo):Nat):Int))).setV In4_5 (v:= .int ((X/2^(n*(m-lo)):Nat):Int))).setV In4_6 (v:= .int ((X%2^(n*(m-lo)):Nat):Int)))
  refine p_callX w8 kn ?_
  repeat walk_at "mine"
  refine ⟨kn,?_⟩
  refine ⟨X%2^(n*(m-lo)),lo,m,n,D,xs,rfl,v1,v2,v3,hl,m1,Nat.le_trans (Nat.le_of_lt m2) hle,hd1,Nat.mod_lt _ (Nat.two_pow_pos _),hs1,hs2,hs3,?_⟩
  repeat walk_at "mine"
  refine p_callX w8 kn.lst ?_
  repeat walk_at "mine"
  refine ⟨kn.lst,?_⟩
  have l1:(wr xs lo (nints (digs n (X%2^(n*(m-lo))) (m-lo)))).length=xs.length:=wr_len (by rw[nints_len,digs_len,Nat.add_sub_cancel' (Nat.le_of_lt m1)];exact Nat.le_trans (Nat.le_of_lt m2) hle)
  refine ⟨X/2^(n*(m-lo)),m,hi,n,D,wr xs lo (nints (digs n (X%2^(n*(m-lo))) (m-lo))),rfl,v1,v2,v3,if_pos rfl,m2,l1▸hle,hd2,in4_hi m1 m2 hX,l1▸hs1,hs2,l1▸hs3,?_⟩
  repeat walk_at "mine"
  rw[←digs_two m1 m2 hle,←setL_setL (xs:=wr xs lo (nints (digs n (X%2^(n*(m-lo))) (m-lo))))] at q
  exact q
end
end
section
open PySem PySem.Spec PySem.Calls PyProof.Rows PySem.W
section
variable {C:Ctx} {k:Nat}
structure Ext (σ σ':St):Prop where
 vars:σ'.vars=σ.vars
 ro:σ'.ro=σ.ro
 lists: ∀b xs,σ.lists b=some xs→σ'.lists b=some xs
inductive FnNestOb (C:Ctx) (mg:Str→Option Value) (name:Str) (n:Nat) (a:Addr) (qual:Str) (pos:Pos):Prop
 |mk (o:Obj) (pm:Value) (c P:Addr) (doc:Value) (h1:C.base.get? a=some o) (h2:o.data= .func (docDef name (fdArgs (st n)) (fdBody (st n)) (fdScope (st n)) pm (.ref c) doc)) (h3:CodeOk C (.ref c) name) (h4:NestOk C mg c P qual pos):FnNestOb C mg name n a qual pos
structure FnNest (C:Ctx) (mg:Str→Option Value) (name:Str) (n:Nat) (a:Addr) (qual:Str) (pos:Pos):Prop where
 g:mg name=some (.ref a)
 ob:FnNestOb C mg name n a qual pos
 nt:a∉C.tabs
noncomputable def q4:Str:=(Str.ofString "_int2digits")++(Str.ofString ".<locals>.")++(Str.ofString "inner")
noncomputable def q5:Str:=(Str.ofString "_digits2int")++(Str.ofString ".<locals>.")++(Str.ofString "inner")
structure Wn (C:Ctx) (W:Wk C):Prop where
 n4:FnNest C W.mg (Str.ofString "_int2digits") 4 W.a__int2digits q4 nd4.pos
 n5:FnNest C W.mg (Str.ofString "_digits2int") 5 W.a__digits2int q5 nd5.pos
theorem clo_key {env:Env} {names:List (Str×NameKind)} {acc:List (Str×Addr)} (nd:(names.map (·.1)).Nodup) (h:(acc.map (·.1)).Nodup) (h2: ∀x∈acc,x.1∉names.map (·.1)):((clo env names acc).map (·.1)).Nodup:=by
 induction names generalizing acc with
 |nil=>exact h
 |cons p r ih=>
  have nd:=List.nodup_cons.mp nd
  have h3: ∀x∈acc,x.1∉r.map (·.1):=fun x hx q=>h2 x hx (List.mem_cons_of_mem _ q)
  by_cases c:p.2= .free
  ·rw[clo_free c]
   exact ih nd.2 (List.nodup_cons.mpr ⟨fun q=>(List.mem_map.mp q).elim fun y hy=>h2 y hy.1 (hy.2▸List.mem_cons_self),h⟩) fun x hx=>(List.mem_cons.mp hx).elim (fun e=>e▸nd.1) (h3 x)
  ·rw[clo_other c]
   exact ih nd.2 h h3
structure Sh (sc:Scope) (L:Cl):Prop where
 has: ∀x,(x,NameKind.free)∈sc.names→(L.clos.lookup x).isSome=true
 only: ∀x c,(x,c)∈L.clos→(x,NameKind.free)∈sc.names
 ne:L.a≠L.c
theorem made_cl {env:Env} {sc:Scope} (hE:EnvOk C env) (hs:env.scope=sc) {name qual:Str} {params:Arguments} {body:List Stmt} {scope:Scope} {a c':Addr} {o oc:Obj} {vals:Str→Option V}
  (nd:(scope.names.map (·.1)).Nodup) (hfree: ∀x∈scope.names,x.2= .free→sc.names.lookup x.1=some .cell) (ne:a≠c')
  (I:IsIn C name qual params body scope (clo env scope.names []) o oc c'):ClOk ⟨a,o,c',oc,clo env scope.names [],vals⟩∧FrameOf ⟨a,o,c',oc,clo env scope.names [],vals⟩ env∧Sh scope ⟨a,o,c',oc,clo env scope.names [],vals⟩:=by
 subst hs
 have hk:=clo_key (env:=env) (acc:=[]) nd List.nodup_nil (fun x h=>nomatch h)
 exact ⟨⟨clo_apart hE nd (fun x hx e=>Option.isSome_iff_exists.mpr (hE.own x.1 (hfree x hx e))) List.Pairwise.nil (fun x h=>nomatch h),hk,I.casesOn fun doc pm ct hd _=>⟨_,hd⟩⟩,
  fun x c hm=>(clo_mem hm).elim (fun h=>nomatch h) fun h=>(hE.own x (hfree _ h.1 rfl)).elim fun c' e=>by
   have h2:=h.2
   rw[e] at h2
   rw[e,h2];rfl,
  fun x h=>by rw[lookup_of_mem_nodup hk (clo_has h)];rfl,fun x c h=>(clo_mem h).elim (fun h=>nomatch h) fun h=>h.1,ne⟩
theorem nest_exec (W:Wk C) {c P:Addr} {qual name:Str} {pos:Pos} (N:NestOk C W.mg c P qual pos) {params:Arguments} {body rest:List Stmt} {scope sc:Scope} {i:Nat} {T:Cl→Con} {vals:St→Addr→Str→Option V}
  (cl: ∀L,ClOk L→Sh scope L→IsIn C name qual params body scope L.clos L.o L.oc L.c→ClSound C k L (T L)) (PW: ∀L,ClOk L→ClSound C k L (T L)→PT Fl) (hW: ∀L O hT,SoundSX (FrameOf L) C k sc (PW L O hT) rest)
  (nd:(scope.names.map (·.1)).Nodup) (hfree:(scope.names.all fun x=> !(x.2== .free)||sc.names.lookup x.1==some .cell)=true) (hi:NameOk sc i name .cell) (hd0:params.defaults=[]) (hk0:params.kw_defaults=[]) (ha: ∀env,annTrees params none env=[])
  {env:Env} {A:Around} {σ:St} {s:Shared} {Q:Fl→St→Prop} (hs:env.scope=sc) (hc:env.code= .ref c) (hq:env.qual++name=qual) (hE:EnvOk C env) (hL:Lim k A) (R:Rel C env σ s)
  (q: ∀L O hT,Sh scope L→σ.lists L.a=none→σ.lists L.c=none→σ.ro L.a=none→L.vals=vals σ L.a→PW L O hT Q (setV (addRo (addRo σ L.c L.oc) L.a L.o) i (.fn L.a))):
  wpAny (model C.prog C.w) A (execs (.FunctionDef name params body [] none [] scope none name pos::rest) env) (PostS C env σ s Q) NoE s:=by
 have hqn:qualnameIn env name name=qual:=by
  unfold qualnameIn
  rw[show env.kindOf name=some .cell by unfold Env.kindOf;rw[hs];exact hi.look]
  exact hq
 have hfree: ∀x∈scope.names,x.2= .free→sc.names.lookup x.1=some .cell:=fun x hx e=>eq_of_beq (imp_t (List.all_eq_true.mp hfree x hx) e id)
 exact wpAny_execs_cons (wpS (def_run W.K W.gl1 N (Q:=fun f σ₂=>f= .next∧ ∃L:Cl,∃(O:ClOk L) (hT:ClSound C k L (T L)),FrameOf L env∧PW L O hT Q σ₂) hs hc hqn hE hL R hfree hi.get hi.look hd0 hk0 (ha env) fun a o c' oc n1 n2 n3 n4 I=>
  have M:=made_cl (a:=a) (vals:=vals σ a) hE hs nd hfree n4 I
  have hT:=cl _ M.1 M.2.2 I
  ⟨rfl,_,M.1,hT,M.2.1,q _ M.1 hT M.2.2 n1 n2 n3 rfl⟩) fun f s₂ g σ₂ rf R2 S2 q'=>q'.2.elim fun L q=>q.elim fun O q=>q.elim fun hT z=>by
   cases q'.1
   cases (show f= .next from rf)
   exact backS S2 ((hW L O hT).go env A σ₂ s₂ Q hs z.1 hE hL R2 z.2))
theorem body4_eq:fdBody (st 4)=nth (.Pass ⟨0,0,0,0⟩) (fdBody (st 4)) 0:: .FunctionDef (Str.ofString "inner") (fdArgs nd4) (fdBody nd4) [] none [] (fdScope nd4) none (Str.ofString "inner") nd4.pos::(fdBody (st 4)).drop 2:=by kernel_rfl
theorem body5_eq:fdBody (st 5)= .FunctionDef (Str.ofString "inner") (fdArgs nd5) (fdBody nd5) [] none [] (fdScope nd5) none (Str.ofString "inner") nd5.pos::(fdBody (st 5)).drop 1:=by kernel_rfl
noncomputable def inChk (params:Arguments) (scope:Scope) (n:Nat):Bool:=fnChk params scope n&&((scope.names.all fun x=> !(x.2== .cell))&&(List.range n).all fun i=>kindAt scope i== .local)
theorem InOk.of_chk {params:Arguments} {scope:Scope} {n:Nat} (h:inChk params scope n=true):InOk C params scope n:=by
 have c0:=and_t h
 have d:=and_t c0.2
 have c1:=and_t c0.1
 have c2:=and_t c1.2
 have c3:=and_t c2.2
 have c4:=and_t c3.2
 have c5:=and_t c4.2
 have c6:=and_t c5.2
 exact ⟨fun x hx e=>absurd (List.all_eq_true.mp d.1 x hx) (by rw[e];decide),fun i hi=>by
  have hk:=eq_of_beq (List.all_eq_true.mp d.2 i (List.mem_range.mpr hi))
  have:=List.all_eq_true.mp c1.1 i (List.mem_range.mpr hi)
  rw[hk] at this
  exact (any_t this).elim fun p z=>have q:=and_t z.2;have r:=and_t q.2
   ⟨p,z.1,eq_of_beq q.1,eq_of_beq r.1⟩,eq_of_beq c2.1,of_decide_eq_true c3.1,of_decide_eq_true c4.1,eq_of_beq c5.1,(Bool.not_eq_true' _).mp c6.1,(Bool.not_eq_true' _).mp c6.2⟩
theorem ok4:InOk C (fdArgs nd4) In4 3:= .of_chk (by kernel_rfl)
theorem ok5:InOk C (fdArgs nd5) In5 2:= .of_chk (by kernel_rfl)
theorem ClSound.none {L:Cl}:ClSound C k L (fun _ _ _=>False):=fun _ _ _ _ _ _ _ _ _ _ _ _ _ _ q=>q.elim
theorem bind_cons {α:Type} {n:Nat} {vs:List α} (h:vs.length=n+1): ∃a r,vs=a::r∧r.length=n:=by
 cases vs with
 |nil=>cases h
 |cons a r=>exact ⟨a,r,rfl,Nat.succ.inj h⟩
theorem bind1 {α:Type} {vs:List α} (h:vs.length=1): ∃a,vs=[a]:=(bind_cons h).elim fun a z=>z.elim fun r z=>⟨a,z.1.trans (congrArg _ (List.length_eq_zero_iff.mp z.2))⟩
theorem bind2 {α:Type} {vs:List α} (h:vs.length=2): ∃a b,vs=[a,b]:=(bind_cons h).elim fun a z=>z.elim fun r z=>(bind1 z.2).elim fun b y=>⟨a,b,z.1.trans (congrArg _ y)⟩
theorem bind3 {α:Type} {vs:List α} (h:vs.length=3): ∃a b c,vs=[a,b,c]:=(bind_cons h).elim fun a z=>z.elim fun r z=>(bind2 z.2).elim fun b y=>y.elim fun c y=>⟨a,b,c,z.1.trans (congrArg _ y)⟩
theorem bind4 {α:Type} {vs:List α} (h:vs.length=4): ∃a b c d,vs=[a,b,c,d]:=(bind_cons h).elim fun a z=>z.elim fun r z=>(bind3 z.2).elim fun b y=>y.elim fun c y=>y.elim fun d y=>⟨a,b,c,d,z.1.trans (congrArg _ y)⟩
theorem bind5 {α:Type} {vs:List α} (h:vs.length=5): ∃a b c d e,vs=[a,b,c,d,e]:=(bind_cons h).elim fun a z=>z.elim fun r z=>(bind4 z.2).elim fun b y=>y.elim fun c y=>y.elim fun d y=>y.elim fun e y=>⟨a,b,c,d,e,z.1.trans (congrArg _ y)⟩
theorem bind6 {α:Type} {vs:List α} (h:vs.length=6): ∃a b c d e f,vs=[a,b,c,d,e,f]:=(bind_cons h).elim fun a z=>z.elim fun r z=>(bind5 z.2).elim fun b y=>y.elim fun c y=>y.elim fun d y=>y.elim fun e y=>y.elim fun f y=>⟨a,b,c,d,e,f,z.1.trans (congrArg _ y)⟩
theorem mem3 {x a b c:Str} (h:x∈[a,b,c]):x=a∨x=b∨x=c:=(List.mem_cons.mp h).imp_right fun h=>(List.mem_cons.mp h).imp_right fun h=>List.mem_singleton.mp h
theorem free_mem {sc:Scope} {x:Str} {l:List Str} (h:(x,NameKind.free)∈sc.names) (e:(sc.names.filter fun p=>p.2== .free).map (·.1)=l):x∈l:=e▸List.mem_map.mpr ⟨_,List.mem_filter.mpr ⟨h,rfl⟩,rfl⟩
theorem Sh.s4 {L:Cl} (S:Sh In4 L):Sh4 L:=⟨S.has _ (List.mem_of_getElem? In4_7.get),S.has _ (List.mem_of_getElem? In4_8.get),S.has _ (List.mem_of_getElem? In4_9.get),fun x c h=>mem3 (free_mem (S.only x c h) (by kernel_rfl)),S.ne⟩
theorem cl4 (W:Wk C) {L:Cl} (O:ClOk L) (S:Sh4 L) {qual:Str} (I:IsIn C (Str.ofString "inner") qual (fdArgs nd4) (fdBody nd4) In4 L.clos L.o L.oc L.c) (d:Nat):ClSound C (d+1) L (T_in4 L d):=by
 have go: ∀{k d:Nat} {T:Con} (hT:ClSound C k L T) (hw: ∀d',d=d'+1→T=T_in4 L d'),ClSound C (k+1) L (T_in4 L d):=fun hT hw=>(cl_sound W.K W.T0 O I ok4 (fun doc pm ct vs h=>(bind3 h).elim fun a z=>z.elim fun b z=>z.elim fun c z=>by subst z;rfl) (W_in4 W O hT).2).weak fun ds Q σ h=>con_in4 W O S hT hw ds Q σ h
 induction d with
 |zero=>exact go ClSound.none fun d' e=>nomatch e
 |succ d ih=>exact go ih fun d' e=>Nat.succ.inj e▸rfl
noncomputable def ndig (n X:Nat):Nat:=((Builtin.Int.intBits (X:Int))+n-1)/n
inductive T_i2d (d:Nat) (ds:List V) (Q:V→St→Prop) (σ:St):Prop
 |mk (X n:Nat) (e:ds=[.int (X:Int),.int (n:Int)]) (hn:0<n) (hn2:n≤2^25) (hd:ndig n X≤2^d) (hm:ndig n X≤2^20) (hs:n*ndig n X≤2^25)
 (q: ∀D σ',Ext σ σ'→σ.lists D=none→σ'.lists D=some (nints (digs n X (ndig n X)))→Q (.lst D) σ'):T_i2d d ds Q σ
noncomputable def vals4 (σ:St) (a:Addr) (x:Str):Option V:=if x=Str.ofString "a_digits" then σ.vars 2 else if x=Str.ofString "n" then σ.vars 1 else some (.fn a)
inductive I2dK (W:Wk C) (d:Nat) (Q:Fl→St→Prop) (f:Fl) (σ₁:St):Prop
 |mk (e:f= .next) (q: ∀(L:Cl) (O:ClOk L) (hT:ClSound C (d+1) L (T_in4 L d)),Sh In4 L→σ₁.lists L.a=none→σ₁.lists L.c=none→σ₁.ro L.a=none→L.vals=vals4 σ₁ L.a→
   (W_i2d2 W O hT).1 Q (setV (addRo (addRo σ₁ L.c L.oc) L.a L.o) 3 (.fn L.a))):I2dK W d Q f σ₁
noncomputable def P_i2d (W:Wk C) (d:Nat):PT Fl:=fun Q σ=>(W_i2d0 (k:=d+1) W).1 (I2dK W d Q) σ
theorem i2d_body (W:Wk C) {d:Nat} {c P:Addr} (N:NestOk C W.mg c P q4 nd4.pos) (env:Env) (A:Around) (σ:St) (s:Shared) (Q:Fl→St→Prop) (hs:env.scope=Sc_int2digits) (hc:env.code= .ref c) (hq:env.qual=(Str.ofString "_int2digits")++(Str.ofString ".<locals>."))
  (hE:EnvOk C env) (hL:Lim (d+1) A) (hR:Rel C env σ s) (q:P_i2d W d Q σ):wpAny (model C.prog C.w) A (execs (fdBody (st 4)) env) (PostS C env σ s Q) (fun _ _=>False) s:=by
 rw[body4_eq]
 exact wpAny_execs_cons (wpS ((W_i2d0 (k:=d+1) W).2.go env A σ s _ hs hE hL hR q) fun f s₁ g σ₁ rf R1 S1 q'=>q'.casesOn fun e qq=>by
  subst e
  cases (show f= .next from rf)
  exact backS S1 (nest_exec W N (fun L O S I=>cl4 W O S.s4 I d) (fun L O hT=>(W_i2d2 W O hT).1) (fun L O hT=>(W_i2d2 W O hT).2) (ok4 (C:=C)).nd (by kernel_rfl) Sc_int2digits_3 (by kernel_rfl) (by kernel_rfl) (fun _=>by kernel_rfl) hs hc (by rw[hq];rfl) hE hL R1 qq))
end
end
section
open PySem PySem.Spec PySem.Calls PyProof.Rows PySem.W
section
variable {C:Ctx} {k:Nat}
theorem p_len {a:Addr} {xs:List V} {σ:St} {Q:V→St→Prop} (h:σ.lists a=some xs) (hz:xs.length≤sizeLine) (q:Q (.int (xs.length:Int)) σ):biPT .len [.lst a] Q σ:= .lenL h hz q
theorem ndig_ok {n X:Nat} (hn:0<n):X<2^(n*ndig n X):=by
 refine n_bits.mp ?_
 have h:Builtin.Int.intBits (X:Int)+n-1<n*(ndig n X+1):=Nat.lt_mul_div_succ _ hn
 rw[Nat.mul_succ] at h
 lia
theorem ndig_zero {n:Nat} (hn:0<n):ndig n 0=0:=Nat.div_eq_of_lt (show 0+n-1<n by rw[Nat.zero_add];exact Nat.sub_lt hn (by decide))
theorem ndig_pos {n X:Nat} (hn:0<n) (c:X≠0):0<ndig n X:=Nat.pos_of_ne_zero fun z=>by
 have:=ndig_ok (X:=X) hn
 rw[z,Nat.mul_zero] at this
 exact c (Nat.lt_one_iff.mp this)
theorem rep_one {x:V} (m:Nat):(List.replicate m [x]).flatten=List.replicate m x:=by
 induction m with
 |zero=>rfl
 |succ m ih=>rw[List.replicate_succ,List.flatten_cons,ih];rfl
theorem wr_all {m:Nat} {x:V} {ys:List V} (h:ys.length=m):wr (List.replicate m x) 0 ys=ys:=by
 unfold wr
 rw[List.take_zero,Nat.zero_add,List.drop_of_length_le (by rw[List.length_replicate];exact Nat.le_of_eq h.symm),List.append_nil];rfl
theorem made_ro {σ:St} {a c:Addr} {o oc:Obj} (ne:a≠c):(addRo (addRo σ c oc) a o).ro a=some o∧(addRo (addRo σ c oc) a o).ro c=some oc:=⟨if_pos rfl,(if_neg (Ne.symm ne)).trans (if_pos rfl)⟩
theorem con_i2d (W:Wk C) {d:Nat} (ds:List V) (Q:V→St→Prop) (σ:St) (h:T_i2d d ds Q σ):fnCon 2 (P_i2d W d) ds Q σ:=by
 obtain ⟨X,n,rfl,hn,hn2,hd,hm,hs,q⟩:=h
 refine fn_con rfl ?_
 generalize hτ:fr [V.int (X:Int),V.int (n:Int)] σ=τ
 have w0:τ.vars 0=some (.int (X:Int)):=hτ▸rfl
 have w1:τ.vars 1=some (.int (n:Int)):=hτ▸rfl
 have wl: ∀(D:Addr) (σ':St),(∀b xs,τ.lists b=some xs→σ'.lists b=some xs)→τ.lists D=none→σ'.lists D=some (nints (digs n X (ndig n X)))→Q (.lst D) ⟨σ.vars,σ'.lists,σ.ro⟩:=fun D σ' e n l=>q D ⟨σ.vars,σ'.lists,σ.ro⟩ ⟨rfl,rfl,fun b xs z=>e b xs (hτ▸z)⟩ (by subst hτ;exact n) l
 clear hτ q
 unfold P_i2d W_i2d0
 repeat walk_at "mine"
 refine ⟨by decide,fun c0 h0=>?_⟩
 replace h0:τ.lists c0=none:=h0
 repeat walk_at "mine"
 refine m_bits ?_
 repeat walk_at "mine"
 refine o_add ?_
 repeat walk_at "mine"
 refine o_subE (c:=((Builtin.Int.intBits (X:Int)+n-1:Nat):Int)) (by lia) ?_
 repeat walk_at "mine"
 refine o_divE (c:=(ndig n X:Int)) (n_fdiv _ _) (Int.ofNat_ne_zero.mpr (Nat.ne_of_gt hn)) (Nat.lt_of_le_of_lt hn2 (by decide)) ?_
 refine .mulL (xs:=[.int 0]) setL_get (by lia) (by lia) (by rw[List.length_singleton,Nat.one_mul];exact Nat.le_trans hm (by decide)) fun D hD=>?_
 rw[Int.toNat_natCast,rep_one]
 repeat walk_at "mine"
 refine ⟨rfl,fun L O hT S l1 l2 r1 hv=>?_⟩
 have hDc:D≠c0:=fun e=>by rw[e,setL_get] at hD;cases hD
 replace hD:τ.lists D=none:=(setL_other hDc).symm.trans hD
 have g1:L.vals (Str.ofString "a_digits")=some (.lst D):=hv▸rfl
 have g2:L.vals (Str.ofString "inner")=some (.fn L.a):=hv▸rfl
 have g3:L.vals (Str.ofString "n")=some (.int (n:Int)):=by rw[hv];exact w1
 clear l1 l2 r1 hv
 have kn:Knows Sc_int2digits L (setV (addRo (addRo (setV (setL (setL τ c0 [V.int 0]) D (List.replicate (ndig n X) (V.int 0))) 2 (.lst D)) L.c L.oc) L.a L.o) 3 (.fn L.a)):=
  have r:=made_ro S.ne
  ⟨r.1,r.2,fun x c hx=>(S.s4.only x c hx).elim (fun e=>e▸⟨2,_,_,Sc_int2digits_2.get,by decide,rfl,g1⟩) fun e=>e.elim (fun e=>e▸⟨3,_,_,Sc_int2digits_3.get,by decide,rfl,g2⟩) fun e=>e▸⟨1,_,_,Sc_int2digits_1.get,by decide,w1,g3⟩⟩
 have hx: ∀{ys:List V} (b xs),τ.lists b=some xs→(setL (setL τ c0 [V.int 0]) D ys).lists b=some xs:=fun b xs e=>(setL_other (ne_at e hD)).trans ((setL_other (ne_at e h0)).trans e)
 unfold W_i2d2
 repeat walk_at "mine"
 by_cases c:X=0
 ·subst c
  refine t_intF rfl ?_
  repeat walk_at "mine"
  refine wl D (setL (setL τ c0 [V.int 0]) D _) hx hD (setL_get.trans ?_)
  rw[ndig_zero hn];rfl
 ·refine t_intT (fun z=>c (Int.ofNat_eq_zero.mp z)) ?_
  repeat walk_at "mine"
  refine p_callX rfl kn ?_
  repeat walk_at "mine"
  refine p_len setL_get (by rw[List.length_replicate];exact len_size hm) ?_
  repeat walk_at "mine"
  refine ⟨kn,?_⟩
  rw[List.length_replicate]
  refine ⟨X,0,ndig n X,n,D,List.replicate (ndig n X) (V.int 0),rfl,g1,g3,g2,setL_get,ndig_pos hn c,by rw[List.length_replicate];exact Nat.le_refl _,hd,ndig_ok hn,by rw[List.length_replicate];exact hs,hn2,by rw[List.length_replicate];exact hm,?_⟩
  repeat walk_at "mine"
  rw[Nat.sub_zero,wr_all (by rw[nints_len,digs_len])]
  exact wl D (setL (setL (setL τ c0 [V.int 0]) D _) D _) (fun b xs e=>(setL_other (ne_at e hD)).trans (hx b xs e)) hD setL_get
theorem fn_chk_par {a:Arguments} {sc:Scope} {m:Nat} (h:fnChk a sc m=true) (i:Nat) (hi:i<m): ∃p kd,(a.args.map (·.arg))[i]? =some p∧sc.names[i]? =some (p,kd)∧sc.names.lookup p=some kd∧(kd= .local∨kd= .cell):=
 (any_t (List.all_eq_true.mp (and_t h).1 i (List.mem_range.mpr hi))).elim fun p z=>have q:=and_t z.2;have r:=and_t q.2
  ⟨p,_,z.1,eq_of_beq q.1,eq_of_beq r.1,(Bool.or_eq_true_iff.mp r.2).imp eq_of_beq eq_of_beq⟩
theorem nest_sound (W:Wk C) {mg:Str→Option Value} {name:Str} {n:Nat} {a:Addr} {qual:Str} {pos:Pos} (N:FnNest C mg name n a qual pos) {m:Nat} (hchk:fnChk (fdArgs (st n)) (fdScope (st n)) m=true) {P:PT Fl}
  (hbind: ∀pm c doc (vs:List Value),vs.length=m→bindArgs (docDef name (fdArgs (st n)) (fdBody (st n)) (fdScope (st n)) pm (.ref c) doc) ⟨vs,[]⟩=pure (((fdArgs (st n)).args.map (·.arg)).zip vs))
  (hP: ∀(c T:Addr),NestOk C mg c T qual pos→ ∀(env:Env) (A:Around) (σ:St) (s:Shared) (Q:Fl→St→Prop),env.scope=fdScope (st n)→env.code= .ref c→env.qual=name++(Str.ofString ".<locals>.")→EnvOk C env→Lim k A→Rel C env σ s→P Q σ→wpAny (model C.prog C.w) A (execs (fdBody (st n)) env) (PostS C env σ s Q) (fun _ _=>False) s):FnSound C (k+1) a (fnCon m P):=by
 have c2:=and_t (and_t hchk).2
 have c3:=and_t c2.2
 have c4:=and_t c3.2
 have c5:=and_t c4.2
 have c6:=and_t c5.2
 exact N.ob.casesOn fun o pm c T doc h1 h2 h3 h4=>fn_soundX W.K W.T0 h1 N.nt h2 h3 (hbind pm c doc) (fn_chk_par hchk) (eq_of_beq c2.1) (of_decide_eq_true c3.1) (of_decide_eq_true c4.1) (eq_of_beq c5.1) ((Bool.not_eq_true' _).mp c6.1) ((Bool.not_eq_true' _).mp c6.2) (hP c T h4)
theorem i2d_sound (W:Wk C) (N:Wn C W) (d:Nat):FnSound C (d+2) W.a__int2digits (T_i2d d):=
 FnSound.weak (nest_sound W N.n4 (m:=2) (by kernel_rfl) (fun pm c doc vs h=>(bind2 h).elim fun a z=>z.elim fun b z=>by subst z;rfl) fun c T h=>i2d_body W (d:=d) h) fun ds Q σ h=>con_i2d W ds Q σ h
end
end
section
open PySem PySem.Spec PySem.Calls PyProof.Rows PySem.W
section
variable {C:Ctx} {k:Nat}
noncomputable def val (n:Nat):List Nat→Nat
 |[]=>0
 |d::r=>d+2^n*val n r
theorem val_cons (n d:Nat) (r:List Nat):val n (d::r)=d+2^n*val n r:=rfl
theorem val_append (n:Nat) (b a:List Nat):val n (a++b)=val n a+2^(n*a.length)*val n b:=by
 induction a with
 |nil=>rw[List.nil_append,List.length_nil,Nat.mul_zero,Nat.pow_zero,Nat.one_mul];exact (Nat.zero_add _).symm
 |cons d r ih=>rw[List.cons_append,val_cons,val_cons,ih,List.length_cons,Nat.mul_succ,Nat.pow_add,Nat.mul_add,Nat.mul_comm (2^(n*r.length)) (2^n),Nat.mul_assoc (2^n),Nat.add_assoc]
theorem digit_mid {d p v e:Nat} (h1:d<p) (h2:v<e):d+p*v<e*p:=by
 have h3:p*(v+1)≤p*e:=Nat.mul_le_mul_left _ h2
 rw[Nat.mul_comm e]
 rw[Nat.mul_succ,Nat.add_comm] at h3
 exact Nat.lt_of_lt_of_le (Nat.add_lt_add_right h1 _) h3
theorem val_lt {n:Nat} {l:List Nat} (h: ∀x∈l,x<2^n):val n l<2^(n*l.length):=by
 induction l with
 |nil=>exact Nat.two_pow_pos _
 |cons d r ih=>
  rw[List.length_cons,Nat.mul_succ,Nat.pow_add]
  exact digit_mid (h d List.mem_cons_self) (ih fun x hx=>h x (List.mem_cons_of_mem _ hx))
noncomputable def seg (l:List Nat) (lo hi:Nat):List Nat:=(l.drop lo).take (hi-lo)
theorem seg_len {l:List Nat} {lo hi:Nat} (h:hi≤l.length):(seg l lo hi).length=hi-lo:=by
 unfold seg
 rw[List.length_take,List.length_drop,Nat.min_eq_left (Nat.sub_le_sub_right h lo)]
theorem seg_split {l:List Nat} {lo m hi:Nat} (h1:lo≤m) (h2:m≤hi):seg l lo hi=seg l lo m++seg l m hi:=by
 unfold seg
 rw[show hi-lo=(m-lo)+(hi-m) by lia,List.take_add,List.drop_drop,Nat.add_sub_cancel' h1]
theorem seg_mem {l:List Nat} {lo hi x:Nat} (h:x∈seg l lo hi):x∈l:=List.mem_of_mem_drop (List.mem_of_mem_take h)
theorem seg_one {l:List Nat} {lo:Nat} (h:lo<l.length):seg l lo (lo+1)=[l[lo]]:=by
 unfold seg
 rw[Nat.add_sub_cancel_left,List.drop_eq_getElem_cons h,List.take_succ_cons,List.take_zero]
theorem seg_all {l:List Nat}:seg l 0 l.length=l:=List.take_length
inductive T_in5 (L:Cl) (d:Nat) (ds:List V) (Q:V→St→Prop) (σ:St):Prop
 |mk (lo hi n:Nat) (D:Addr) (l:List Nat) (e:ds=[.int (lo:Int),.int (hi:Int)])
 (v1:L.vals (Str.ofString "digits")=some (.lst D)) (v2:L.vals (Str.ofString "n")=some (.int (n:Int))) (v3:L.vals (Str.ofString "inner")=some (.fn L.a)) (hl:σ.lists D=some (nints l))
 (hlt:lo<hi) (hle:hi≤l.length) (hd:hi-lo≤2^d) (hx: ∀x∈l,x<2^n) (hs1:n*l.length≤2^25) (hs3:l.length≤2^20) (q:Q (.int (val n (seg l lo hi):Int)) σ):T_in5 L d ds Q σ
theorem Sh.o5 {L:Cl} (S:Sh In5 L) (x:Str) (c:Addr) (h:(x,c)∈L.clos):x=Str.ofString "digits" ∨x=Str.ofString "inner" ∨x=Str.ofString "n" :=mem3 (free_mem (S.only x c h) (by kernel_rfl))
theorem nints_get {l:List Nat} {i:Nat} (h:i<l.length):(nints l)[i]? =some (V.int ((l[i]:Nat):Int)):=by
 unfold nints
 rw[List.getElem?_map,List.getElem?_eq_getElem h];rfl
theorem seg_bits {l:List Nat} {n lo m hi:Nat} (m2:m<hi) (hle:hi≤l.length) (hx: ∀x∈l,x<2^n) (hs:n*l.length≤2^25):Builtin.Int.intBits ((val n (seg l m hi):Nat):Int)+n*(m-lo)≤2^27:=by
 have hv:=val_lt (l:=seg l m hi) fun x h=>hx x (seg_mem h)
 rw[seg_len hle] at hv
 have b3:=n_bits.mpr hv
 have b1:n*(hi-m)≤n*l.length:=Nat.mul_le_mul_left n (Nat.le_trans (Nat.sub_le _ _) hle)
 have b2:n*(m-lo)≤n*l.length:=Nat.mul_le_mul_left n (by lia)
 lia
theorem con_in5 (W:Wk C) {L:Cl} (O:ClOk L) (S:Sh In5 L) {d:Nat} {T:Con} (hT:ClSound C k L T) (hw: ∀d',d=d'+1→T=T_in5 L d') (ds:List V) (Q:V→St→Prop) (σ:St) (h:T_in5 L d ds Q σ):
  clCon In5 L 2 (W_in5 W O hT).1 ds Q σ:=by
 obtain ⟨lo,hi,n,D,l,rfl,v1,v2,v3,hl,hlt,hle,hd,hx,hs1,hs3,q⟩:=h
 refine ⟨rfl,?_⟩
 generalize hτ:inSt In5 L.clos 2 [.int (lo:Int),.int (hi:Int)] L.vals σ L.a L.o L.c L.oc=τ
 have w4:τ.vars 4=some (.lst D):=hτ▸in_free In5_4 (by decide) (S.has _ (List.mem_of_getElem? In5_4.get)) v1
 have w5:τ.vars 5=some (.fn L.a):=hτ▸in_free In5_5 (by decide) (S.has _ (List.mem_of_getElem? In5_5.get)) v3
 have w6:τ.vars 6=some (.int (n:Int)):=hτ▸in_free In5_6 (by decide) (S.has _ (List.mem_of_getElem? In5_6.get)) v2
 have w0:τ.vars 0=some (.int (lo:Int)):=hτ▸rfl
 have w1:τ.vars 1=some (.int (hi:Int)):=hτ▸rfl
 replace hl:τ.lists D=some (nints l):=hτ▸hl
 have kn:Knows In5 L τ:=hτ▸in_knows S.ne fun x c hx=>(S.o5 x c hx).elim (fun e=>e▸hτ▸⟨4,_,_,In5_4.get,by decide,w4,v1⟩) fun e=>e.elim (fun e=>e▸hτ▸⟨5,_,_,In5_5.get,by decide,w5,v3⟩) fun e=>e▸hτ▸⟨6,_,_,In5_6.get,by decide,w6,v2⟩
 replace q:Q (.int (val n (seg l lo hi):Int)) ⟨σ.vars,τ.lists,σ.ro⟩:=hτ▸q
 clear hτ S
 unfold W_in5
 repeat walk_at "mine"
 refine o_add ?_
 repeat walk_at "mine"
 by_cases c:hi=lo+1
 ·subst c
  refine c_eqT rfl ?_
  repeat walk_at "mine"
  refine it_lst (i:=lo) hl (nints_get hle) (idx63 hle hs3) ?_
  repeat walk_at "mine"
  rw[seg_one hle] at q
  exact q
 ·refine c_eqF (fun z=>c (Int.ofNat_inj.mp z.symm)) ?_
  repeat walk_at "mine"
  obtain ⟨m,hm⟩: ∃m,m=(lo+hi)/2:=⟨_,rfl⟩
  obtain ⟨m1,m2,d',rfl,hd1,hd2⟩:=in4_mid hlt c hd hm
  have:=hw d' rfl
  subst this
  clear hlt c hd hw
  refine o_add ?_
  repeat walk_at "mine"
  refine o_shrE (n:=1) (c:=(m:Int)) (by rw[←Int.natCast_add,n_shr,hm]) ?_
  clear hm
  repeat walk_at "mine"
  refine o_subE (sub_int (Nat.le_of_lt m1)) ?_
  repeat walk_at "mine"
  refine o_mulE (c:=((n*(m-lo):Nat):Int)) (by rw[Nat.mul_comm,Int.natCast_mul]) (IntMulOk.of_left (bits20 (Nat.le_trans (Nat.sub_le _ _) (Nat.le_trans (Nat.le_of_lt m2) (Nat.le_trans hle hs3))))) ?_
  repeat walk_at "mine"
  replace kn:=(kn.setV In5_2 (v:= .int (m:Int))).setV In5_3 (v:= .int ((n*(m-lo):Nat):Int))
  refine p_callX w5 kn ?_
  repeat walk_at "mine"
  refine ⟨kn,?_⟩
  refine ⟨m,hi,n,D,l,rfl,v1,v2,v3,hl,m2,hle,hd2,hx,hs1,hs3,?_⟩
  repeat walk_at "mine"
  refine o_shlE (n_shl _ _) (seg_bits m2 hle hx hs1) ?_
  refine p_callX w5 kn ?_
  repeat walk_at "mine"
  refine ⟨kn,?_⟩
  refine ⟨lo,m,n,D,l,rfl,v1,v2,v3,hl,m1,Nat.le_trans (Nat.le_of_lt m2) hle,hd1,hx,hs1,hs3,?_⟩
  repeat walk_at "mine"
  refine o_addE ?_ q
  rw[seg_split (Nat.le_of_lt m1) (Nat.le_of_lt m2),val_append,seg_len (Nat.le_trans (Nat.le_of_lt m2) hle),Nat.mul_comm (2^(n*(m-lo))),←Int.natCast_add,Nat.add_comm]
theorem cl5 (W:Wk C) {L:Cl} (O:ClOk L) (S:Sh In5 L) {qual:Str} (I:IsIn C (Str.ofString "inner") qual (fdArgs nd5) (fdBody nd5) In5 L.clos L.o L.oc L.c) (d:Nat):ClSound C (d+1) L (T_in5 L d):=by
 have go: ∀{k d:Nat} {T:Con} (hT:ClSound C k L T) (hw: ∀d',d=d'+1→T=T_in5 L d'),ClSound C (k+1) L (T_in5 L d):=fun hT hw=>(cl_sound W.K W.T0 O I ok5 (fun doc pm ct vs h=>(bind2 h).elim fun a z=>z.elim fun b z=>by subst z;rfl) (W_in5 W O hT).2).weak fun ds Q σ h=>con_in5 W O S hT hw ds Q σ h
 induction d with
 |zero=>exact go ClSound.none fun d' e=>nomatch e
 |succ d ih=>exact go ih fun d' e=>Nat.succ.inj e▸rfl
inductive T_d2i (d:Nat) (ds:List V) (Q:V→St→Prop) (σ:St):Prop
 |mk (n:Nat) (D:Addr) (l:List Nat) (e:ds=[.lst D,.int (n:Int)]) (hl:σ.lists D=some (nints l)) (hd:l.length≤2^d) (hm:l.length≤2^20) (hs:n*l.length≤2^25) (hx: ∀x∈l,x<2^n)
 (q:Q (.int (val n l:Int)) σ):T_d2i d ds Q σ
noncomputable def vals5 (σ:St) (a:Addr) (x:Str):Option V:=if x=Str.ofString "digits" then σ.vars 0 else if x=Str.ofString "n" then σ.vars 1 else some (.fn a)
noncomputable def P_d2i (W:Wk C) (d:Nat):PT Fl:=fun Q σ₁=> ∀(L:Cl) (O:ClOk L) (hT:ClSound C (d+1) L (T_in5 L d)),Sh In5 L→σ₁.lists L.a=none→σ₁.lists L.c=none→σ₁.ro L.a=none→
 L.vals=vals5 σ₁ L.a→(W_d2i1 W O hT).1 Q (setV (addRo (addRo σ₁ L.c L.oc) L.a L.o) 2 (.fn L.a))
theorem d2i_body (W:Wk C) {d:Nat} {c P:Addr} (N:NestOk C W.mg c P q5 nd5.pos) (env:Env) (A:Around) (σ₁:St) (s₁:Shared) (Q:Fl→St→Prop) (hs:env.scope=Sc_digits2int) (hc:env.code= .ref c) (hq:env.qual=(Str.ofString "_digits2int")++(Str.ofString ".<locals>."))
  (hE:EnvOk C env) (hL:Lim (d+1) A) (R1:Rel C env σ₁ s₁) (q:P_d2i W d Q σ₁):wpAny (model C.prog C.w) A (execs (fdBody (st 5)) env) (PostS C env σ₁ s₁ Q) (fun _ _=>False) s₁:=by
 rw[body5_eq]
 exact nest_exec W N (fun L O S I=>cl5 W O S I d) (fun L O hT=>(W_d2i1 W O hT).1) (fun L O hT=>(W_d2i1 W O hT).2) (ok5 (C:=C)).nd (by kernel_rfl) Sc_digits2int_2 (by kernel_rfl) (by kernel_rfl) (fun _=>by kernel_rfl) hs hc (by rw[hq];rfl) hE hL R1 q
theorem con_d2i (W:Wk C) {d:Nat} (ds:List V) (Q:V→St→Prop) (σ:St) (h:T_d2i d ds Q σ):fnCon 2 (P_d2i W d) ds Q σ:=by
 obtain ⟨n,D,l,rfl,hl,hd,hm,hs,hx,q⟩:=h
 refine fn_con rfl fun L O hT S l1 l2 r1 hv=>?_
 have g1:L.vals (Str.ofString "digits")=some (.lst D):=hv▸rfl
 have g2:L.vals (Str.ofString "inner")=some (.fn L.a):=hv▸rfl
 have g3:L.vals (Str.ofString "n")=some (.int (n:Int)):=hv▸rfl
 have kn:Knows Sc_digits2int L (setV (addRo (addRo (fr [.lst D,.int (n:Int)] σ) L.c L.oc) L.a L.o) 2 (.fn L.a)):=
  have r:=made_ro S.ne
  ⟨r.1,r.2,fun x c hx=>(S.o5 x c hx).elim (fun e=>e▸⟨0,_,_,Sc_digits2int_0.get,by decide,rfl,g1⟩) fun e=>e.elim (fun e=>e▸⟨2,_,_,Sc_digits2int_2.get,by decide,rfl,g2⟩) fun e=>e▸⟨1,_,_,Sc_digits2int_1.get,by decide,rfl,g3⟩⟩
 clear l1 l2 r1 hv S
 unfold W_d2i1
 repeat walk_at "mine"
 refine .lst hl (by rw[nints_len];exact len_size hm) ?_
 by_cases c:l=[]
 ·subst c
  refine t_else ?_
  repeat walk_at "mine"
  exact q
 ·have hb:(!(nints l).isEmpty)=true:=by
   cases l with
   |nil=>exact (c rfl).elim
   |cons _ _=>rfl
  rw[hb]
  refine t_then ?_
  refine p_callX rfl kn ?_
  repeat walk_at "mine"
  refine p_len hl (by rw[nints_len];exact len_size hm) ?_
  repeat walk_at "mine"
  refine ⟨kn,?_⟩
  rw[nints_len]
  refine ⟨0,l.length,n,D,l,rfl,g1,g3,g2,hl,List.length_pos_iff.mpr c,Nat.le_refl _,hd,hx,hs,hm,?_⟩
  rw[seg_all]
  repeat walk_at "mine"
  exact q
theorem d2i_sound (W:Wk C) (N:Wn C W) (d:Nat):FnSound C (d+2) W.a__digits2int (T_d2i d):=
 FnSound.weak (nest_sound W N.n5 (m:=2) (by kernel_rfl) (fun pm c doc vs h=>(bind2 h).elim fun a z=>z.elim fun b z=>by subst z;rfl) fun c T h=>d2i_body W (d:=d) h) fun ds Q σ h=>con_d2i W ds Q σ h
end
end
section
open PySem PySem.Spec PySem.Calls PyProof.Rows PySem.W
section
variable {M:Model} {A:Around} {R:GenEnd} {Y:Protocol} {n:Nat} {s₀:Shared} {c:Code} {fs:List Frame} {s:Shared} {env:Env}
 {K:Flow→Sem Fin} {H:Value→Sem Fin} {gd:Bool→Bool} {lv:List Value→List Value}
theorem g_bind {α β:Type} {m:Sem α} {f:α→Sem β} {K:β→Sem Fin} {H:Value→Sem Fin}
  (h:wpAny M (A.over c fs) m (fun a s'=>Seg M A R Y n s₀ c ((f a).wrap K H gd lv) fs s') NoE s):Seg M A R Y n s₀ c ((m >>= f).wrap K H gd lv) fs s:=by
 rw[Sem.bind_eq_wrap',Sem.wrap_wrap]
 exact seg_wrap (wpAny_mono h (fun _ _ x=>x) fun _ _ x=>x.elim)
theorem g_wrap {α:Type} {m:Sem α} {K:α→Sem Fin} {H:Value→Sem Fin}
  (h:wpAny M (A.over c fs) m (fun a s'=>Seg M A R Y n s₀ c (K a) fs s') NoE s):Seg M A R Y n s₀ c (m.wrap K H gd lv) fs s:=
 seg_wrap (wpAny_mono h (fun _ _ x=>x) fun _ _ x=>x.elim)
theorem g_plain {st:Stmt} {rest:List Stmt} (h:wpAny M (A.over c fs) (exec st env) (fun f s'=>match f with
   | .next=>Seg M A R Y n s₀ c ((execs rest env).wrap K H gd lv) fs s'
   |f=>Seg M A R Y n s₀ c (K f) fs s') NoE s):Seg M A R Y n s₀ c ((execs (st::rest) env).wrap K H gd lv) fs s:=by
 refine seg_execs_cons (g_wrap (wpAny_mono h (fun f s' x=>?_) fun _ _ x=>x))
 cases f<;>exact x
theorem g_if {test:Expr} {body orelse:List Stmt} {pos:Pos} (h:wpAny M (A.over c fs) (isTrue test env (eval test env)) (fun b s'=>
   if b=true then Seg M A R Y n s₀ c ((execs body env).wrap K H gd lv) fs s' else Seg M A R Y n s₀ c ((execs orelse env).wrap K H gd lv) fs s') NoE s):
  Seg M A R Y n s₀ c ((exec (.If test body orelse pos) env).wrap K H gd lv) fs s:=by
 rw[exec_If]
 refine g_bind (wpAny_standAt (g_bind (wpAny_mono h (fun b s' x=>?_) fun _ _ x=>x)))
 cases b<;>exact x
theorem g_for {target iter:Expr} {body orelse:List Stmt} {pos:Pos} (hs: ∀x,foldedSetIterable iter env x=pure x)
  (h:wpAny M (A.over c fs) (eval iter env) (fun x s₁=>wpAny M (A.over c fs) (pyIter x) (fun it s₂=> ∀p (k:Result→Sem Fin),(∀f,k (.ok f)=K f)→
   Seg M A R Y n s₀ (.forLoop target it body orelse env) (M.den (.forLoop target it body orelse env)) (.ret k none (gd false) (lv []) c p []::fs) s₂) NoE s₁) NoE s):
  Seg M A R Y n s₀ c ((exec (.For target iter body orelse pos) env).wrap K H gd lv) fs s:=by
 rw[exec_For]
 refine g_bind (wpAny_standAt (g_bind (wpAny_mono h (fun x s₁ h₁=>?_) fun _ _ x=>x)))
 refine g_bind (wpAny_of_eq (hs x) (g_bind (wpAny_standAt (g_bind (wpAny_holding (wpAny_mono h₁ (fun it s₂ h₂=>?_) fun _ _ x=>x))))))
 exact seg_call fun p=>h₂ p _ fun f=>rfl
end
section
variable {prog:Program} {w:World} {A:Around} {R:GenEnd} {Y:Protocol} {n:Nat} {s₀:Shared} {fs:List Frame} {s:Shared} {env:Env}
theorem g_block {k:Result→Sem Fin} {hd:Option Value} {g:Bool} {l:List Value} {c₁:Code} {p₁:Pos} {kp:List Value} (h:Seg (model prog w) A R Y n s₀ c₁ (k (.ok .next)) fs s):
  Seg (model prog w) A R Y n s₀ (.block [] env) ((model prog w).den (.block [] env)) (.ret k hd g l c₁ p₁ kp::fs) s:=
 seg_leaf (c:= .block [] env) (.ok .next) h
theorem g_forLoop {target:Expr} {it:Value} {body orelse:List Stmt}
  (h:wpAny (model prog w) (A.over (.forLoop target it body orelse env) fs) (pyNext it) (fun r s'=>match r with
   |none=>Seg (model prog w) A R Y n s₀ (.block orelse env) ((model prog w).den (.block orelse env)) fs s'
   |some v=>wpAny (model prog w) (A.over (.forLoop target it body orelse env) fs) (letOwnedTupleGo target it v) (fun _ s₁=>wpAny (model prog w) (A.over (.forLoop target it body orelse env) fs) (assign target env v) (fun _ s₂=>
     ∀(K:Flow→Sem Fin) (H:Value→Sem Fin),K .next= .pure (.again (.forLoop target it body orelse env))→K .cont= .pure (.again (.forLoop target it body orelse env))→K .brk= .pure (.done .next)→(∀v,K (.ret v)= .pure (.done (.ret v)))→
      Seg (model prog w) A R Y n s₀ (.forLoop target it body orelse env) ((execs body env).wrap K H id id) fs s₂) NoE s₁) NoE s') NoE s):
  Seg (model prog w) A R Y n s₀ (.forLoop target it body orelse env) ((model prog w).den (.forLoop target it body orelse env)) fs s:=by
 show Seg _ A R Y n s₀ _ ((forTurn target it body orelse env).onRaise (fun x=>do noteFrame x env;theTreesLotGoes x)) fs s
 unfold forTurn
 rw[Sem.onRaise_eq_wrap]
 refine g_bind (wpAny_standAt (g_bind (wpAny_onRaise (wpAny_mono h (fun r s₁ h₁=>?_) fun _ _ x=>x.elim))))
 cases r with
 |none=>exact seg_again (by rfl) h₁
 |some v=>
  refine g_bind (wpAny_mono h₁ (fun _ s₂ h₂=>?_) fun _ _ x=>x)
  refine g_bind (wpAny_mono h₂ (fun _ s₃ h₃=>?_) fun _ _ x=>x)
  rw[Sem.bind_eq_wrap',Sem.wrap_wrap]
  exact h₃ _ _ rfl rfl rfl fun _=>rfl
end
end
section
open PySem PySem.Spec PySem.Calls PyProof.Rows PySem.W
noncomputable def Ctx.pin (C:Ctx) (p:Array GenState→Prop):Ctx:={C with gOk:=p}
section
variable {C:Ctx} {env:Env} {σ σ':St} {s s':Shared} {A:Around} {k:Nat} {sc:Scope} {p:Array GenState→Prop}
theorem relV_pin {h:Heap} {x:V} {v:Value}:RelV (C.pin p) h x v=RelV C h x v:=by kernel_rfl
theorem relVs_pin {h:Heap} {x:List V} {v:List Value}:RelVs (C.pin p) h x v=RelVs C h x v:=by kernel_rfl
theorem VarAt.pin {h:Heap} {m:Str→Option Value} {i:Nat} {v:V} (x:VarAt C env h m i v):VarAt (C.pin p) env h m i v:=x.casesOn fun y k e val r l c=>⟨y,k,e,val,relV_pin.mpr r,l,c⟩
theorem VarAt.unpin {h:Heap} {m:Str→Option Value} {i:Nat} {v:V} (x:VarAt (C.pin p) env h m i v):VarAt C env h m i v:=x.casesOn fun y k e val r l c=>⟨y,k,e,val,relV_pin.mp r,l,c⟩
theorem ListAt.pin {h:Heap} {a:Addr} {xs:List V} (x:ListAt C h a xs):ListAt (C.pin p) h a xs:=x.casesOn fun items l r b=>⟨items,l,relVs_pin.mpr r,b⟩
theorem ListAt.unpin {h:Heap} {a:Addr} {xs:List V} (x:ListAt (C.pin p) h a xs):ListAt C h a xs:=x.casesOn fun items l r b=>⟨items,l,relVs_pin.mp r,b⟩
theorem Rel.pin (R:Rel C env σ s) (hp:p s.gens):Rel (C.pin p) env σ s:=
 ⟨⟨R.keep,R.tab,R.os⟩,hp,R.vars.imp fun m z=>⟨z.1,fun i v e=>(z.2 i v e).pin⟩,fun a xs e=>(R.lists a xs e).pin,R.cells,fun a o e=>(R.ro a o e).casesOn fun e n c l b=>⟨e,n,c,l,b⟩⟩
theorem Rel.unpin (R:Rel (C.pin p) env σ s) (hp:C.gOk s.gens):Rel C env σ s:=
 ⟨⟨R.keep,R.tab,R.os⟩,hp,R.vars.imp fun m z=>⟨z.1,fun i v e=>(z.2 i v e).unpin⟩,fun a xs e=>(R.lists a xs e).unpin,R.cells,fun a o e=>(R.ro a o e).casesOn fun e n c l b=>⟨e,n,c,l,b⟩⟩
theorem EnvOk.pin (h:EnvOk C env):EnvOk (C.pin p) env:=⟨h.kind,h.globals,h.builtins,h.nodup,h.fresh,h.apart,h.cfresh,h.own⟩
theorem CtxOk.pin (K:CtxOk C):CtxOk (C.pin p):=⟨K.base,K.none,K.kept⟩
theorem ScrOk.pin (Z:ScrOk C):ScrOk (C.pin p):=⟨Z.there.imp fun items z=>z.imp fun n z=>⟨z.1,z.2.1,relVs_pin.mpr z.2.2⟩⟩
theorem FnAt.pin {mg:Str→Option Value} {name:Str} {n:Nat} {a:Addr} (F:FnAt C mg name n a):FnAt (C.pin p) mg name n a:=
 ⟨F.g,F.ob.casesOn fun o pm cd doc h1 h2 h3=>⟨o,pm,cd,doc,h1,h2,h3.casesOn fun c o vs t e1 e2 e3 e4 e5=>⟨c,o,vs,t,e1,e2,e3,e4,e5⟩⟩,F.nt⟩
noncomputable def Wk.pin (W:Wk C) (p:Array GenState→Prop):Wk (C.pin p) where
 K:=W.K.pin
 T0:=⟨W.T0.nolimit,W.T0.statics⟩
 Z:=W.Z.pin
 mg:=W.mg
 mb:=W.mb
 gl:=W.gl
 mods:=W.mods
 modn:=W.modn
 m_len:=W.m_len
 b_len:=W.b_len
 m_ord:=W.m_ord
 b_ord:=W.b_ord
 m_chr:=W.m_chr
 b_chr:=W.b_chr
 m_divmod:=W.m_divmod
 b_divmod:=W.b_divmod
 m_min:=W.m_min
 b_min:=W.b_min
 m_range:=W.m_range
 b_range:=W.b_range
 m_list:=W.m_list
 b_list:=W.b_list
 m_reversed:=W.m_reversed
 b_reversed:=W.b_reversed
 m_enumerate:=W.m_enumerate
 b_enumerate:=W.b_enumerate
 t__DIV_LIMIT:=W.t__DIV_LIMIT
 g__DIV_LIMIT:=W.g__DIV_LIMIT
 t__MAX_STRING_SIZE:=W.t__MAX_STRING_SIZE
 g__MAX_STRING_SIZE:=W.g__MAX_STRING_SIZE
 t__MOVE_COST:=W.t__MOVE_COST
 g__MOVE_COST:=W.g__MOVE_COST
 t__CASE_COST:=W.t__CASE_COST
 g__CASE_COST:=W.g__CASE_COST
 a__div2n1n:=W.a__div2n1n
 f__div2n1n:=W.f__div2n1n.pin
 a__div3n2n:=W.a__div3n2n
 f__div3n2n:=W.f__div3n2n.pin
 a__int2digits:=W.a__int2digits
 f__int2digits:=W.f__int2digits.pin
 a__digits2int:=W.a__digits2int
 f__digits2int:=W.f__digits2int.pin
 a__divmod_pos:=W.a__divmod_pos
 f__divmod_pos:=W.f__divmod_pos.pin
 a_int_divmod:=W.a_int_divmod
 f_int_divmod:=W.f_int_divmod.pin
 a__iter_escaped_chars:=W.a__iter_escaped_chars
 f__iter_escaped_chars:=W.f__iter_escaped_chars.pin
 a__strip_quoted_realnames:=W.a__strip_quoted_realnames
 f__strip_quoted_realnames:=W.f__strip_quoted_realnames.pin
 a_in_table_b1:=W.a_in_table_b1
 f_in_table_b1:=W.f_in_table_b1.pin
 a_map_table_b3:=W.a_map_table_b3
 f_map_table_b3:=W.f_map_table_b3.pin
 a__substitution_cost:=W.a__substitution_cost
 f__substitution_cost:=W.f__substitution_cost.pin
 a__levenshtein_distance:=W.a__levenshtein_distance
 f__levenshtein_distance:=W.f__levenshtein_distance.pin
 a__law_cells:=W.a__law_cells
 f__law_cells:=W.f__law_cells.pin
 a__law_word:=W.a__law_word
 f__law_word:=W.f__law_word.pin
 a__law_typed:=W.a__law_typed
 f__law_typed:=W.f__law_typed.pin
 a__law_line:=W.a__law_line
 f__law_line:=W.f__law_line.pin
 a__law_entry:=W.a__law_entry
 f__law_entry:=W.f__law_entry.pin
 a__law_cleared:=W.a__law_cleared
 f__law_cleared:=W.f__law_cleared.pin
 a__law_rings:=W.a__law_rings
 f__law_rings:=W.f__law_rings.pin
 a__law_table:=W.a__law_table
 f__law_table:=W.f__law_table.pin
 a__law_due:=W.a__law_due
 f__law_due:=W.f__law_due.pin
 a_law:=W.a_law
 f_law:=W.f_law.pin
theorem Rel.others (K:CtxOk C) (R:Rel C env σ s) (F:Addr→Prop) {h':Heap} {tk:Nat} (g: ∀c o,¬F c→s.heap.get? c=some o→h'.get? c=some o) (nb: ∀b,F b→C.base.get? b=none) (nl: ∀b,F b→σ.lists b=none) (nL: ¬F env.locals)
  (nc: ∀x b,env.cells.lookup x=some b→ ¬F b) (nt: ∀b items,F b→ ¬IsTup s.heap b items) (nr: ∀b,F b→σ.ro b=none) (nk: ∀b o,F b→s.heap.get? b=some o→ ¬CodeLike o):Rel C env σ {s with heap:=h',toks:=tk}:=by
 have gt: ∀a items,IsTup s.heap a items→IsTup h' a items:=fun a items x=>IsTup.kept x fun o e=>g a o (fun f=>nt a items f x) e
 have gc: ∀{x:Str} {c:Addr} {v:Option Value},env.cells.lookup x=some c→s.heap.IsCell c v→h'.IsCell c v:=fun hx z=>z.imp fun o e=>⟨g _ _ (nc _ _ hx) e.1,e.2⟩
 exact ⟨⟨fun c o e n=>g c o (fun q=>nomatch (nb c q).symm.trans e) (R.keep c o e n),K.kept _ _ R.tab fun c o e hc=>g c o (fun q=>hc.elim (not_tab K (nb c q)) (nk c o q e)) e,R.os⟩,R.bare,
  R.vars.imp fun m z=>⟨z.1.imp fun o z=>z.imp fun es z=>z.imp fun ep z=>z.imp_left (g _ _ nL),fun i v e=>(z.2 i v e).move (RelV.kept gt) gc⟩,
  fun a xs e=>(R.lists a xs e).casesOn fun items l r b=>⟨items,l.imp fun n e1=>g _ _ (fun q=>nomatch (nl a q).symm.trans e) e1,RelVs.kept gt r,b⟩,fun x c e=>(R.cells x c e).imp fun v z=>gc e z,
  fun a o e=>(R.ro a o e).move (fun z _ _=>g _ _ (fun q=>nomatch (nr a q).symm.trans e) z) id⟩
end
end
section
open PySem PySem.Spec PySem.Calls PyProof.Rows PySem.W
noncomputable def sDef:Stmt:= .Pass ⟨0,0,0,0⟩
noncomputable def eDef:Expr:= .Constant .none 0 ⟨0,0,0,0⟩
noncomputable def forTarget:Stmt→Expr
 | .For t _ _ _ _=>t
 |_=>eDef
noncomputable def forIter:Stmt→Expr
 | .For _ i _ _ _=>i
 |_=>eDef
noncomputable def forBody:Stmt→List Stmt
 | .For _ _ b _ _=>b
 |_=>[]
noncomputable def ifTest:Stmt→Expr
 | .If t _ _ _=>t
 |_=>eDef
noncomputable def ifBody:Stmt→List Stmt
 | .If _ b _ _=>b
 |_=>[]
noncomputable def ifElse:Stmt→List Stmt
 | .If _ _ o _=>o
 |_=>[]
noncomputable def yE:Stmt→Expr
 | .Expr (.Yield (some e) _) _=>e
 |_=>eDef
noncomputable def yP:Stmt→Pos
 | .Expr e _=>e.pos
 |_=>⟨0,0,0,0⟩
noncomputable def gFor:Stmt:=nth sDef (fdBody (st 9)) 2
noncomputable def gIf:Stmt:=nth sDef (forBody gFor) 0
noncomputable def gY1:Stmt:=nth sDef (ifBody gIf) 0
noncomputable def gA1:Stmt:=nth sDef (ifBody gIf) 1
noncomputable def gIf2:Stmt:=nth sDef (ifElse gIf) 0
noncomputable def gA2:Stmt:=nth sDef (ifBody gIf2) 0
noncomputable def gY2:Stmt:=nth sDef (ifElse gIf2) 0
noncomputable def gIf3:Stmt:=nth sDef (fdBody (st 9)) 3
noncomputable def gY3:Stmt:=nth sDef (ifBody gIf3) 0
theorem gBody_eq:fdBody (st 9)=[nth sDef (fdBody (st 9)) 0,nth sDef (fdBody (st 9)) 1,gFor,gIf3]:=by kernel_rfl
theorem gFor_eq:gFor= .For (forTarget gFor) (forIter gFor) [gIf] [] gFor.pos:=by kernel_rfl
theorem gIf_eq:gIf= .If (ifTest gIf) [gY1,gA1] [gIf2] gIf.pos:=by kernel_rfl
theorem gIf2_eq:gIf2= .If (ifTest gIf2) [gA2] [gY2] gIf2.pos:=by kernel_rfl
theorem gIf3_eq:gIf3= .If (ifTest gIf3) [gY3] [] gIf3.pos:=by kernel_rfl
theorem gY1_eq:gY1= .Expr (.Yield (some (yE gY1)) (yP gY1)) gY1.pos:=by kernel_rfl
theorem gY2_eq:gY2= .Expr (.Yield (some (yE gY2)) (yP gY2)) gY2.pos:=by kernel_rfl
theorem gY3_eq:gY3= .Expr (.Yield (some (yE gY3)) (yP gY3)) gY3.pos:=by kernel_rfl
noncomputable abbrev Sc9:Scope:=fdScope (st 9)
theorem Sc9_0:NameOk Sc9 0 (Str.ofString "addr") .local:= .of (by kernel_rfl)
theorem Sc9_1:NameOk Sc9 1 (Str.ofString "pos") .local:= .of (by kernel_rfl)
theorem Sc9_2:NameOk Sc9 2 (Str.ofString "escape") .local:= .of (by kernel_rfl)
theorem Sc9_3:NameOk Sc9 3 (Str.ofString "ch") .local:= .of (by kernel_rfl)
theorem Sc9_4:NameOk Sc9 4 (Str.ofString "enumerate") .globalImplicit:= .of (by kernel_rfl)
section
variable {C:Ctx} {k:Nat}
noncomputable def W9_s0 (W:Wk C):{P:PT Fl // Sound1 C k Sc9 P (nth sDef (fdBody (st 9)) 0)}:=⟨_,v_asg1 W (v_an W 1 Sc9_1) s_int rfl rfl rfl⟩
noncomputable def W9_s1 (W:Wk C):{P:PT Fl // Sound1 C k Sc9 P (nth sDef (fdBody (st 9)) 1)}:=⟨_,v_asg1 W (v_an W 2 Sc9_2) s_bool rfl rfl rfl⟩
noncomputable def W9_tg (W:Wk C):{T:AT // SoundA C k Sc9 T (forTarget gFor)}:=⟨_,a_tup W.K (.c (v_an W 1 Sc9_1) rfl (.c (v_an W 3 Sc9_3) rfl .nil))⟩
noncomputable def W9_t1:{P:PT Bool // SoundB C k Sc9 P (ifTest gIf)}:=⟨_,v_t (v_loc 2 Sc9_2) rfl⟩
noncomputable def W9_y1 (W:Wk C):{P:PT V // SoundE C k Sc9 P (yE gY1)}:=⟨_,s_tup W.K (.c (v_loc 1 Sc9_1) rfl (.c (s_bin W.K s_str (v_loc 3 Sc9_3)) rfl .nil))⟩
noncomputable def W9_a1 (W:Wk C):{P:PT Fl // Sound1 C k Sc9 P gA1}:=⟨_,v_asg1 W (v_an W 2 Sc9_2) s_bool rfl rfl rfl⟩
noncomputable def W9_t2 (W:Wk C):{P:PT Bool // SoundB C k Sc9 P (ifTest gIf2)}:=⟨_,s_cmpB W.K (v_loc 3 Sc9_3) s_str rfl⟩
noncomputable def W9_a2 (W:Wk C):{P:PT Fl // Sound1 C k Sc9 P gA2}:=⟨_,v_asg1 W (v_an W 2 Sc9_2) s_bool rfl rfl rfl⟩
noncomputable def W9_y2 (W:Wk C):{P:PT V // SoundE C k Sc9 P (yE gY2)}:=⟨_,s_tup W.K (.c (v_loc 1 Sc9_1) rfl (.c (v_loc 3 Sc9_3) rfl .nil))⟩
noncomputable def W9_t3:{P:PT Bool // SoundB C k Sc9 P (ifTest gIf3)}:=⟨_,v_t (v_loc 2 Sc9_2) rfl⟩
noncomputable def W9_y3 (W:Wk C):{P:PT V // SoundE C k Sc9 P (yE gY3)}:=⟨_,s_tup W.K (.c (v_loc 1 Sc9_1) rfl (.c s_str rfl .nil))⟩
end
noncomputable def bsl:Str:=Str.ofString "\\"
noncomputable def escs:List Nat→Nat→Bool→List V
 |[],i,true=>[.tup [.int ((i:Int)-1),.str bsl]]
 |[],_,false=>[]
 |c::r,i,true=> .tup [.int (i:Int),.str (bsl++⟨#[c]⟩)]::escs r (i+1) false
 |c::r,i,false=>if (⟨#[c]⟩:Str)=bsl then escs r (i+1) true else .tup [.int (i:Int),.str ⟨#[c]⟩]::escs r (i+1) false
noncomputable def ItCls (o:Obj):Prop:=(o.cls= .type "enumerate" ∨o.cls= .type "str_iterator" ∨o.cls= .type "str_ascii_iterator")∧ ∃vs,o.data= .fields vs
theorem strTypes (x:Str):strIterType x="str_ascii_iterator" ∨strIterType x="str_iterator" :=by
 unfold strIterType
 split
 ·exact .inl rfl
 ·exact .inr rfl
theorem str_cls {h:Heap} {I:Addr} {x:Str} {t:Tok} {i:Nat} (z:h.IsStrIter I (strIterType x) x t i) {o:Obj} (e:h.get? I=some o):ItCls o:=z.elim fun o' z=>two_at z.1 e fun q=>q▸⟨.inr ((strTypes x).symm.imp (fun e=>z.2.1.trans (congrArg _ e)) fun e=>z.2.1.trans (congrArg _ e)),_,z.2.2⟩
noncomputable def Own (L:Nat) (N0:Heap) (h:Heap) (b:Addr):Prop:=b=L∨(N0.get? b=none∧ ∃o,h.get? b=some o∧ItCls o)
inductive FlatV:V→Prop
 |int (i:Int):FlatV (.int i)
 |bool (b:Bool):FlatV (.bool b)
 |str (x:Str):FlatV (.str x)
theorem FlatV.rel {C:Ctx} {h h':Heap} {v:V} {val:Value} (f:FlatV v) (r:RelV C h v val):RelV C h' v val:=by cases f<;>exact r
noncomputable def flat (σ:St):Prop:= ∀j v,σ.vars j=some v→FlatV v
inductive GSt (C:Ctx) (env:Env) (x:Str) (pos:Int) (esc:Bool) (ch:Option V) (s:Shared):Prop
 |mk (σ:St) (R:Rel (C.pin fun g=>g=s.gens) env σ s) (l:σ.lists=fun _=>none) (r:σ.ro=fun _=>none) (f:flat σ) (v0:σ.vars 0=some (.str x)) (v1:σ.vars 1=some (.int pos)) (v2:σ.vars 2=some (.bool esc)) (v3: ∀y,ch=some y→σ.vars 3=some y):GSt C env x pos esc ch s
structure GInv (C:Ctx) (env:Env) (N0:Heap) (x:Str) (t:Tok) (E I:Addr) (i:Nat) (pos:Int) (esc lv:Bool) (ch:Option V) (s:Shared):Prop where
 rel:GSt C env x pos esc ch s
 en:lv=true→ ∃old,IsEnum s.heap E I i old
 it:lv=true→s.heap.IsStrIter I (strIterType x) x t i
 nE:N0.get? E=none
 nI:N0.get? I=none
 bE:C.base.get? E=none
 bI:C.base.get? I=none
section
variable {C:Ctx} {env:Env} {N0:Heap} {x:Str} {t:Tok} {E I:Addr} {i:Nat} {pos:Int} {esc lv:Bool} {ch:Option V} {s s'':Shared}
theorem VarAt.move' {C:Ctx} {env:Env} {h h':Heap} {m:Str→Option Value} {i:Nat} {v:V} (x:VarAt C env h m i v) (g: ∀{w:Value},RelV C h v w→RelV C h' v w) (c: ∀{y:Str} {c:Addr} {v:Option Value},env.cells.lookup y=some c→h.IsCell c v→h'.IsCell c v):VarAt C env h' m i v:=
 x.casesOn fun x k e val r l q=>⟨x,k,e,val,g r,l,fun n=>(q n).imp fun _ z=>⟨z.1,c z.1 z.2⟩⟩
theorem GInv.base (G:GInv C env N0 x t E I i pos esc lv ch s):BaseOk C s:=G.rel.casesOn fun _ R _ _ _ _ _ _ _=>⟨R.keep,R.tab,R.os⟩
theorem GInv.move (K:CtxOk C) (G:GInv C env N0 x t E I i pos esc lv ch s) (hc:env.cells=[]) (B:BaseOk C s'') (h: ∀b o,s.heap.get? b=some o→Own env.locals N0 s.heap b→s''.heap.get? b=some o):GInv C env N0 x t E I i pos esc lv ch s'':=
 have nc: ∀{y:Str} {c:Addr} {P:Prop},env.cells.lookup y=some c→P:=fun e=>by rw[hc] at e;cases e
 ⟨G.rel.casesOn fun σ R l r f v0 v1 v2 v3=>⟨σ,⟨⟨B.keep,B.tab,B.os⟩,rfl,R.vars.imp fun m z=>⟨z.1.imp fun o z=>z.imp fun es z=>z.imp fun ep z=>z.imp_left fun e=>h _ _ e (.inl rfl),fun j v e=>((z.2 j v e).unpin.move' (f j v e).rel fun e _=>nc e).pin⟩,
   (fun a xs e=>by rw[l] at e;cases e),(fun y c e=>nc e),(fun a o e=>by rw[r] at e;cases e)⟩,l,r,f,v0,v1,v2,v3⟩,
  fun w=>(G.en w).imp fun old en=>h _ _ en (.inr ⟨G.nE,_,en,.inl rfl,_,rfl⟩),fun w=>(G.it w).imp fun o z=>⟨h _ _ z.1 (.inr ⟨G.nI,_,z.1,str_cls (G.it w) z.1⟩),z.2⟩,G.nE,G.nI,G.bE,G.bI⟩
end
end
section
open PySem PySem.Spec PySem.Calls PyProof.Rows PySem.W
noncomputable def Kp (C:Ctx) (L:Nat) (N0:Heap) (s₀ s₁:Shared):Prop:= ∀b o,s₀.heap.get? b=some o→ ¬Own L N0 s₀.heap b→b∉C.tabs→s₁.heap.get? b=some o
noncomputable def FrD (L:Nat) (s:Shared):Prop:= ∃o es ep,s.heap.get? L=some o∧o.data= .dict es ep
inductive YAt (C:Ctx) (L:Nat) (N0:Heap) (items:List V) (m:Nat) (s₀:Shared) (v:Value) (s₁:Shared) (kap:Resume→Shared→Prop):Prop
 |mk (item:V) (hi:items[items.length-(m+1)]? =some item) (r:RelV C s₁.heap item v) (B:BaseOk C s₁) (g:s₁.gens=s₀.gens) (k:Kp C L N0 s₀ s₁) (f:FrD L s₁)
 (q: ∀s'',BaseOk C s''→(∀b o,s₁.heap.get? b=some o→Own L N0 s₁.heap b→s''.heap.get? b=some o)→kap (.send .none) s''):YAt C L N0 items m s₀ v s₁ kap
noncomputable def YG (C:Ctx) (L:Nat) (N0:Heap) (items:List V):Protocol:=fun m s₀ v s₁ kap=>YAt C L N0 items m s₀ v s₁ kap
inductive REnd (C:Ctx) (L:Nat) (N0:Heap) (n:Nat) (s₀ s₁:Shared):Prop
 |mk (z:n=0) (B:BaseOk C s₁) (g:s₁.gens=s₀.gens) (k:Kp C L N0 s₀ s₁):REnd C L N0 n s₀ s₁
noncomputable def RG (C:Ctx) (L:Nat) (N0:Heap):GenEnd:=fun n s₀ r s₁=>r= .ok (.ret .none)∧REnd C L N0 n s₀ s₁
noncomputable def ItAt (s:Shared) (E:Addr):Prop:= ∀o,s.heap.get? E=some o→ItCls o
section
variable {C:Ctx} {env:Env} {N0:Heap} {x:Str} {t:Tok} {E I:Addr} {i:Nat} {pos:Int} {esc lv:Bool} {ch:Option V} {s s' s'' s₀:Shared} {A:Around}
theorem GInv.step (K:CtxOk C) (G:GInv C env N0 x t E I i pos esc lv ch s) {p:Array GenState→Prop} (hp:p=fun g=>g=s.gens) {σ':St} (R':Rel (C.pin p) env σ' s') (hl:σ'.lists=fun _=>none) (hr:σ'.ro=fun _=>none) (hf:flat σ')
  {pos':Int} {esc':Bool} {ch':Option V} (v0:σ'.vars 0=some (.str x)) (v1:σ'.vars 1=some (.int pos')) (v2:σ'.vars 2=some (.bool esc')) (v3: ∀y,ch'=some y→σ'.vars 3=some y)
  (nL:env.locals≠E∧env.locals≠I) (hk: ∀b o,s.heap.get? b=some o→b∉C.tabs→b≠env.locals→s'.heap.get? b=some o):GInv C env N0 x t E I i pos' esc' lv ch' s'∧s'.gens=s.gens:=by
 subst hp
 have hg:s'.gens=s.gens:=R'.bare
 exact ⟨⟨⟨σ',by rw[hg];exact R',hl,hr,hf,v0,v1,v2,v3⟩,fun w=>(G.en w).imp fun old en=>hk _ _ en (not_tab K G.bE) nL.1.symm,fun w=>(G.it w).imp fun o z=>⟨hk _ _ z.1 (not_tab K G.bI) nL.2.symm,z.2⟩,G.nE,G.nI,G.bE,G.bI⟩,hg⟩
theorem Kp.step {L:Nat} (h:Kp C L N0 s₀ s) (hk: ∀b o,s.heap.get? b=some o→b∉C.tabs→b≠L→s'.heap.get? b=some o):Kp C L N0 s₀ s':=fun b o e n nt=>hk b o (h b o e n nt) nt fun q=>n (.inl q)
theorem Kp.refl {L:Nat}:Kp C L N0 s s:=fun _ _ e _ _=>e
theorem step_kept (hc:env.cells=[]) {p:Array GenState→Prop} {σ σ':St} (hl:σ.lists=fun _=>none) (S:Step (XS (C.pin p) env σ) σ σ' s s') (b:Addr) (o:Obj) (e:s.heap.get? b=some o) (nt:b∉C.tabs) (nl:b≠env.locals):s'.heap.get? b=some o:=
 S.kept b o e fun x=>x.elim (fun x=>x.elim (fun x=>by rw[hl] at x;cases x) nt) fun x=>x.elim nl fun x=>x.elim fun y x=>by rw[hc] at x;cases x.1
theorem flat_set {σ:St} (h:flat σ) {j:Nat} {v:V} (hv:FlatV v):flat (setV σ j v):=fun i u e=>setV_to e (fun _ z=>z▸hv) fun _ e=>h i u e
theorem items_head {items r:List V} {a:V} {n:Nat} (h:items.drop (items.length-(n+1))=a::r):items[items.length-(n+1)]? =some a:=by
 rw[←List.head?_drop,h];rfl
theorem items_next {items r:List V} {a:V} {n:Nat} (hn:n+1≤items.length) (h:items.drop (items.length-(n+1))=a::r):items.drop (items.length-n)=r:=by
 rw[show items.length-n=(items.length-(n+1))+1 from (Nat.succ_sub_succ_eq_sub _ _).symm.trans (Nat.succ_sub hn),←List.drop_drop,h];rfl
theorem SoundE.gbind {p:Array GenState→Prop} {k:Nat} {sc:Scope} {σ:St} {P:PT V} {e:Expr} (h:SoundE (C.pin p) k sc P e) (Q:V→St→Prop) {R:Value→Shared→Prop} {Er:Value→Shared→Prop} (hs:env.scope=sc) (hE:EnvOk C env) (hL:Lim k A) (hR:Rel (C.pin p) env σ s) (q:P Q σ)
  (f: ∀v s₁ x σ₁,RelV (C.pin p) s₁.heap x v→Rel (C.pin p) env σ₁ s₁→Step (XE (C.pin p) σ) σ σ₁ s s₁→σ₁.vars=σ.vars→Q x σ₁→R v s₁):wpAny (model C.prog C.w) A (eval e env) R Er s:=wpAny_mono (h.go env A σ s Q hs hE.pin hL hR q) (fun v s₁ p=>p.casesOn fun x σ₁ r R S e q=>f v s₁ x σ₁ r R S e q) fun _ _ x=>x.elim
theorem SoundB.gbind {p:Array GenState→Prop} {k:Nat} {sc:Scope} {σ:St} {P:PT Bool} {e:Expr} (h:SoundB (C.pin p) k sc P e) (Q:Bool→St→Prop) {R:Bool→Shared→Prop} {Er:Value→Shared→Prop} (hs:env.scope=sc) (hE:EnvOk C env) (hL:Lim k A) (hR:Rel (C.pin p) env σ s) (q:P Q σ)
  (f: ∀v s₁ σ₁,Rel (C.pin p) env σ₁ s₁→Step (XE (C.pin p) σ) σ σ₁ s s₁→σ₁.vars=σ.vars→Q v σ₁→R v s₁):wpAny (model C.prog C.w) A (isTrue e env (eval e env)) R Er s:=wpAny_mono (h.go env A σ s Q hs hE.pin hL hR q) (fun v s₁ p=>p.casesOn fun σ₁ R S e q=>f v s₁ σ₁ R S e q) fun _ _ x=>x.elim
theorem Sound1.gbind {p:Array GenState→Prop} {k:Nat} {sc:Scope} {σ:St} {P:PT Fl} {e:Stmt} (h:Sound1 (C.pin p) k sc P e) (Q:Fl→St→Prop) {R:Flow→Shared→Prop} {Er:Value→Shared→Prop} (hs:env.scope=sc) (hE:EnvOk C env) (hL:Lim k A) (hR:Rel (C.pin p) env σ s) (q:P Q σ)
  (f: ∀v s₁ g σ₁,RelF (C.pin p) s₁.heap g v→Rel (C.pin p) env σ₁ s₁→Step (XS (C.pin p) env σ) σ σ₁ s s₁→Q g σ₁→R v s₁):wpAny (model C.prog C.w) A (exec e env) R Er s:=wpAny_mono (h.go env A σ s Q hs hE.pin hL hR q) (fun v s₁ p=>p.casesOn fun g σ₁ r R S q=>f v s₁ g σ₁ r R S q) fun _ _ x=>x.elim
theorem gen_yield (W:Wk C) {items:List V} {c:Code} {fs:List Frame} {K:Flow→Sem Fin} {H:Value→Sem Fin} {ypos:Pos} {P:PT V} {n:Nat} {item:V} {e:Expr} {pos':Pos}
  (hs:env.scope=Sc9) (hE:EnvOk C env) (hc:env.cells=[]) (hL:Lim 1 (A.over c fs)) (nL:env.locals≠E∧env.locals≠I) (G:GInv C env N0 x t E I i pos esc lv ch s) (hg:s.gens=s₀.gens) (hk:Kp C env.locals N0 s₀ s)
  (hP:SoundE (C.pin fun g=>g=s.gens) 1 Sc9 P e) (hq: ∀(σ:St) (Q:V→St→Prop),σ.vars 1=some (.int pos)→(∀y,ch=some y→σ.vars 3=some y)→Q item σ→P Q σ)
  (hi:items[items.length-(n+1)]? =some item) (hfs:splitAtGen fs=none) (hfg:fs.any Frame.guarded=false)
  (next: ∀s'',GInv C env N0 x t E I i pos esc lv ch s''→Seg (model C.prog C.w) A (RG C env.locals N0) (YG C env.locals N0 items) n s'' c (K .next) fs s''):
  Seg (model C.prog C.w) A (RG C env.locals N0) (YG C env.locals N0 items) (n+1) s₀ c ((exec (.Expr (.Yield (some e) ypos) pos') env).wrap K H id id) fs s:=
 G.rel.casesOn fun σ R l r f v0 v1 v2 v3=>seg_Expr_Yield hfs rfl hfg (hP.gbind (fun v σ'=>v=item∧σ'=σ) hs hE hL R (hq σ _ v1 v3 ⟨rfl,rfl⟩) fun v s₁ y σ' r1 R1 S1 ev q=>by
  obtain ⟨rfl,rfl⟩:=q
  have hk1:=step_kept hc l (Step.ES (env:=env) S1)
  have G1:=G.step W.K rfl R1 l r f v0 v1 v2 v3 nL hk1
  exact fun kap hkap=>⟨y,hi,relV_pin.mp r1,G1.1.base,G1.2.trans hg,hk.step hk1,R1.vars.elim fun m z=>z.1.imp fun o z=>z.imp fun es z=>z.imp fun ep z=>⟨z.1,z.2.1⟩,fun s'' B hown=>hkap .none s'' (next s'' (G1.1.move W.K hc B hown))⟩) (by rw[hs];rfl) (inter_fn hE)
end
end
section
open PySem PySem.Spec PySem.Calls PyProof.Rows PySem.W
noncomputable abbrev SegG (C:Ctx) (A:Around) (env:Env) (N0:Heap) (items:List V) (n:Nat) (s₀:Shared) (c:Code) (t:Sem Fin) (fs:List Frame) (s:Shared):Prop:=
 Seg (model C.prog C.w) A (RG C env.locals N0) (YG C env.locals N0 items) n s₀ c t fs s
section
variable {C:Ctx} {env:Env} {N0:Heap} {x:Str} {t:Tok} {E I:Addr} {i:Nat} {pos:Int} {esc lv:Bool} {ch:Option V} {s s' s'' s₀:Shared} {A:Around}
theorem GInv.less (G:GInv C env N0 x t E I i pos esc lv ch s):GInv C env N0 x t E I i pos esc lv none s:=
 ⟨G.rel.casesOn fun σ R l r f v0 v1 v2 _=>⟨σ,R,l,r,f,v0,v1,v2,fun _ e=>nomatch e⟩,G.en,G.it,G.nE,G.nI,G.bE,G.bI⟩
theorem gen_tail (W:Wk C) {items:List V} {fb:List Stmt} {K:Flow→Sem Fin} {H:Value→Sem Fin} {n:Nat} (hs:env.scope=Sc9) (hE:EnvOk C env) (hc:env.cells=[]) (hL:Lim 1 (A.over (.func fb env) [])) (nL:env.locals≠E∧env.locals≠I)
  (hn:n=(escs [] i esc).length) (hi:items.drop (items.length-n)=escs [] i esc) (hpos:esc=true→pos=(i:Int)-1) (G:GInv C env N0 x t E I i pos esc false ch s) (hg:s.gens=s₀.gens) (hk:Kp C env.locals N0 s₀ s) (hK:K .next= .pure (.done (.ret .none))):
  SegG C A env N0 items n s₀ (.func fb env) ((execs [gIf3] env).wrap K H id id) [] s:=by
 refine seg_execs_cons ?_
 rw[gIf3_eq]
 refine G.rel.casesOn fun σ R l r f v0 v1 v2 v3=>g_if ((W9_t3 (C:=C.pin fun g=>g=s.gens) (k:=1)).2.gbind (fun b σ'=>b=esc∧σ'=σ) hs hE hL R ⟨_,v2,.bool ⟨rfl,rfl⟩⟩ fun b s₁ σ' R1 S1 ev q=>?_)
 obtain ⟨rfl,rfl⟩:=q
 have hk1:=step_kept hc l (Step.ES (env:=env) S1)
 have G1:=G.step W.K rfl R1 l r f v0 v1 v2 v3 nL hk1
 cases b with
 |false=>
  cases hn
  show Seg _ _ _ _ 0 s₀ _ (K .next) [] s₁
  rw[hK]
  exact seg_end (.ok (.ret .none)) ⟨rfl,rfl,G1.1.base,G1.2.trans hg,hk.step hk1⟩
 |true=>
  cases hn
  refine seg_execs_cons ?_
  rw[gY3_eq]
  refine gen_yield W (item:= .tup [.int ((i:Int)-1),.str bsl]) hs hE hc hL nL G1.1 (G1.2.trans hg) (hk.step hk1) (W9_y3 (k:=1) (W.pin fun g=>g=s₁.gens)).2 (fun σ Q w1 w3 q=>?_) (items_head hi) rfl rfl fun s'' G''=>?_
  ·rw[hpos rfl] at w1
   show ptTup [ptVar 1,ptStr bsl] _ σ
   exact p_tup (p_args1 (p_var w1 (p_args1 (p_str (p_args0 ⟨(show 2≤sizeLine by decide),q⟩)))))
  ·show Seg _ _ _ _ 0 s'' _ (K .next) [] s''
   rw[hK]
   exact seg_end (.ok (.ret .none)) ⟨rfl,rfl,G''.base,rfl,Kp.refl⟩
noncomputable def tupElts:Expr→List Expr
 | .Tuple e _ _=>e
 |_=>[]
noncomputable def tupK:Expr→Nat
 | .Tuple _ k _=>k
 |_=>0
theorem gTarget_eq:forTarget gFor= .Tuple (tupElts (forTarget gFor)) (tupK (forTarget gFor)) (forTarget gFor).pos:=by kernel_rfl
theorem str_draws {A:Around} (hh:A.handled=none) (I:Addr) (x:Str) (t:Tok):Draws C.prog C.w A I [I] x.cps.size (fun i v=> ∃c u,x.cps[i]? =some c∧v= .str ⟨#[c]⟩ u) (fun i h=>h.IsStrIter I (strIterType x) x t i):=
 (strTypes x).elim (fun e=>e.symm▸Draws.strAscii hh I x t) fun e=>e.symm▸Draws.strWide hh I x t
noncomputable def GLoop (C:Ctx) (A:Around) (env:Env) (N0:Heap) (items:List V) (x:Str) (t:Tok) (E I:Addr) (fs:List Frame) (cs:List Nat):Prop:=
 ∀(i:Nat) (pos:Int) (esc:Bool) (n:Nat) (s₀ s:Shared),x.cps.toList.drop i=cs→i≤x.cps.size→(esc=true→pos=(i:Int)-1)→n=(escs cs i esc).length→items.drop (items.length-n)=escs cs i esc→n≤items.length→
  GInv C env N0 x t E I i pos esc true none s→s.gens=s₀.gens→Kp C env.locals N0 s₀ s→ItAt s₀ E→ItAt s₀ I→
  SegG C A env N0 items n s₀ (.forLoop (forTarget gFor) (.ref E) [gIf] [] env) ((model C.prog C.w).den (.forLoop (forTarget gFor) (.ref E) [gIf] [] env)) fs s
theorem GInv.own (G:GInv C env N0 x t E I i pos esc true ch s):ItAt s E∧ItAt s I:=
 ⟨fun o e=>(G.en rfl).elim fun old en=>two_at en e fun q=>q▸⟨.inl rfl,_,rfl⟩,fun o e=>str_cls (G.it rfl) e⟩
theorem drop_at {l:List Nat} {i c:Nat} {r:List Nat} (hx:l.drop i=c::r):l.drop (i+1)=r∧i+1≤l.length∧l[i]? =some c:=by
 refine ⟨by rw[←List.drop_drop,hx];rfl,Nat.lt_of_not_le fun z=>?_,by rw[←List.head?_drop,hx];rfl⟩
 rw[List.drop_of_length_le z] at hx
 cases hx
theorem gen_flag (W:Wk C) {n:Nat} {c:Code} {fs:List Frame} {T:Sem Fin} {K:Flow→Sem Fin} {H:Value→Sem Fin} {items:List V} {p:Array GenState→Prop} (hp:p=fun g=>g=s.gens) {st:Stmt} {b:Bool} {P:PT Fl} (hs:env.scope=Sc9) (hE:EnvOk C env) (hc:env.cells=[]) (nL:env.locals≠E∧env.locals≠I) (hL:Lim 1 (A.over c fs))
  (G:GInv C env N0 x t E I i pos esc lv ch s) (hk:Kp C env.locals N0 s₀ s) (hP:Sound1 (C.pin p) 1 Sc9 P st) (hq: ∀(σ:St) (Q:Fl→St→Prop),Q .next (setV σ 2 (.bool b))→P Q σ) (hK:K .next=T)
  (f: ∀s₁,GInv C env N0 x t E I i pos b lv none s₁→s₁.gens=s.gens→Kp C env.locals N0 s₀ s₁→SegG C A env N0 items n s₀ c T fs s₁):SegG C A env N0 items n s₀ c ((execs [st] env).wrap K H id id) fs s:=by
 subst hp
 exact G.rel.casesOn fun σ R l rr ff v0 v1 v2 v3=>g_plain (hP.gbind (fun fl σ'=>fl= .next∧σ'=setV σ 2 (.bool b)) hs hE hL R (hq σ _ ⟨rfl,rfl⟩) fun fl s₁ g σ' rf R1 S1 q=>by
  obtain ⟨rfl,rfl⟩:=q
  cases (show fl= .next from rf)
  have hk1:=step_kept hc l S1
  have G1:=G.step W.K rfl R1 (esc':=b) (ch':=none) l rr (flat_set ff (.bool b)) v0 v1 rfl (fun y e=>nomatch e) nL hk1
  show Seg _ _ _ _ n s₀ _ (K .next) fs s₁
  rw[hK]
  exact f s₁ G1.1 G1.2 (hk.step hk1))
theorem gen_turn (W:Wk C) {items:List V} {fs:List Frame} (hs:env.scope=Sc9) (hE:EnvOk C env) (hc:env.cells=[]) (nL:env.locals≠E∧env.locals≠I) (hL2:Lim 1 (A.over (.forLoop (forTarget gFor) (.ref E) [gIf] [] env) fs))
  (hfs:splitAtGen fs=none) (hfg:fs.any Frame.guarded=false) {c:Nat} {r:List Nat} (ih:GLoop C A env N0 items x t E I fs r) {n:Nat} (hx:x.cps.toList.drop i=c::r)
  (hn:n=(escs (c::r) i esc).length) (hi:items.drop (items.length-n)=escs (c::r) i esc) (hle:n≤items.length) (G:GInv C env N0 x t E I (i+1) (i:Int) esc true (some (.str ⟨#[c]⟩)) s) (hg:s.gens=s₀.gens) (hk:Kp C env.locals N0 s₀ s) (iE:ItAt s₀ E) (iI:ItAt s₀ I)
  {K:Flow→Sem Fin} {H:Value→Sem Fin} (hK:K .next= .pure (.again (.forLoop (forTarget gFor) (.ref E) [gIf] [] env))):
  SegG C A env N0 items n s₀ (.forLoop (forTarget gFor) (.ref E) [gIf] [] env) ((execs [gIf] env).wrap K H id id) fs s:=by
 have dx:=drop_at hx
 -- the next turn
 have again: ∀(esc':Bool) (n':Nat) (s₁ s₂:Shared) (ch':Option V),n'=(escs r (i+1) esc').length→items.drop (items.length-n')=escs r (i+1) esc'→n'≤items.length→
   GInv C env N0 x t E I (i+1) (i:Int) esc' true ch' s₂→s₂.gens=s₁.gens→Kp C env.locals N0 s₁ s₂→ItAt s₁ E→ItAt s₁ I→SegG C A env N0 items n' s₁ (.forLoop (forTarget gFor) (.ref E) [gIf] [] env) (.pure (.again (.forLoop (forTarget gFor) (.ref E) [gIf] [] env))) fs s₂:=fun esc' n' s₁ s₂ ch' h2 h3 h4 G' h5 h6 h7 h8=>
  seg_again rfl (ih (i+1) (i:Int) esc' n' s₁ s₂ dx.1 dx.2.1 (fun _=>(Int.add_sub_cancel (i:Int) 1).symm) h2 h3 h4 G'.less h5 h6 h7 h8)
 clear ih hx dx
 refine seg_execs_cons ?_
 rw[gIf_eq]
 refine G.rel.casesOn fun σ R l rr f v0 v1 v2 v3=>g_if ((W9_t1 (C:=C.pin fun g=>g=s.gens) (k:=1)).2.gbind (fun b σ'=>b=esc∧σ'=σ) hs hE hL2 R ⟨_,v2,.bool ⟨rfl,rfl⟩⟩ fun b s₁ σ' R1 S1 ev q=>?_)
 obtain ⟨rfl,rfl⟩:=q
 have hk1:=step_kept hc l (Step.ES (env:=env) S1)
 have G1:=G.step W.K rfl R1 l rr f v0 v1 v2 v3 nL hk1
 have hkk:=hk.step hk1
 have hgg:=G1.2.trans hg
 replace G1:=G1.1
 clear hk1 S1 R1 R v0 v1 v2 v3 f G hk hg ev l rr
 cases b with
 |true=>
  cases n with
  |zero=>cases hn
  |succ n'=>
  replace hn:n'=(escs r (i+1) false).length:=Nat.succ.inj hn
  replace hi:items.drop (items.length-(n'+1))= .tup [.int (i:Int),.str (bsl++⟨#[c]⟩)]::escs r (i+1) false:=hi
  refine seg_execs_cons ?_
  rw[gY1_eq]
  refine gen_yield W (item:= .tup [.int (i:Int),.str (bsl++⟨#[c]⟩)]) hs hE hc hL2 nL G1 hgg hkk (W9_y1 (k:=1) (W.pin fun g=>g=s₁.gens)).2 (fun σ Q w1 w3 q=>?_) (items_head hi) hfs hfg fun s'' G''=>?_
  ·show ptTup [ptVar 1,ptBin .Add (ptStr bsl) (ptVar 3)] _ σ
   exact p_tup (p_args1 (p_var w1 (p_args1 (p_bin (p_str (p_var (w3 _ rfl) (o_adds (show 1+1≤sizeLine by decide) (p_args0 ⟨(show 2≤sizeLine by decide),q⟩))))))))
  ·exact gen_flag W rfl hs hE hc nL hL2 G'' Kp.refl (W9_a1 (k:=1) (W.pin fun g=>g=s''.gens)).2 (fun σ Q q=>q) hK fun s₂ G2 hg2 hk2=>again false n' s'' s₂ none hn (items_next hle hi) (Nat.le_of_succ_le hle) G2 hg2 hk2 G''.own.1 G''.own.2
 |false=>
  refine seg_execs_cons ?_
  rw[gIf2_eq]
  refine G1.rel.casesOn fun σ R l rr f v0 v1 v2 v3=>g_if ((W9_t2 (k:=1) (W.pin fun g=>g=s₁.gens)).2.gbind (fun b σ'=>b=decide ((⟨#[c]⟩:Str)=bsl)∧σ'=σ) hs hE hL2 R (p_var (v3 _ rfl) (p_str (c_eqs ⟨rfl,rfl⟩))) fun b s₂ σ' R1 S1 ev q=>?_)
  obtain ⟨rfl,rfl⟩:=q
  have hk1:=step_kept hc l (Step.ES (env:=env) S1)
  have G2:=G1.step W.K rfl R1 l rr f v0 v1 v2 v3 nL hk1
  have hk2:=hkk.step hk1
  have hgg2:=G2.2.trans hgg
  replace G2:=G2.1
  clear hk1 S1 R1 R v0 v1 v2 v3 f G1 hkk hgg ev l rr
  replace hn:n=(if (⟨#[c]⟩:Str)=bsl then escs r (i+1) true else .tup [.int (i:Int),.str ⟨#[c]⟩]::escs r (i+1) false).length:=hn
  replace hi:items.drop (items.length-n)=(if (⟨#[c]⟩:Str)=bsl then escs r (i+1) true else .tup [.int (i:Int),.str ⟨#[c]⟩]::escs r (i+1) false):=hi
  by_cases cc:(⟨#[c]⟩:Str)=bsl
  ·rw[decide_eq_true cc]
   rw[if_pos cc] at hn hi
   exact gen_flag W rfl hs hE hc nL hL2 G2 hk2 (W9_a2 (k:=1) (W.pin fun g=>g=s₂.gens)).2 (fun σ Q q=>q) hK fun s₃ G3 hg3 hk3=>again true n s₀ s₃ none hn hi hle G3 (hg3.trans hgg2) hk3 iE iI
  ·rw[decide_eq_false cc]
   rw[if_neg cc] at hn hi
   cases n with
   |zero=>cases hn
   |succ n'=>
   replace hn:=Nat.succ.inj hn
   refine seg_execs_cons ?_
   rw[gY2_eq]
   refine gen_yield W (item:= .tup [.int (i:Int),.str ⟨#[c]⟩]) hs hE hc hL2 nL G2 hgg2 hk2 (W9_y2 (k:=1) (W.pin fun g=>g=s₂.gens)).2 (fun σ Q w1 w3 q=>?_) (items_head hi) hfs hfg fun s'' G''=>?_
   ·show ptTup [ptVar 1,ptVar 3] _ σ
    exact p_tup (p_args1 (p_var w1 (p_args1 (p_var (w3 _ rfl) (p_args0 ⟨(show 2≤sizeLine by decide),q⟩)))))
   ·show SegG C A env N0 items n' s'' _ (K .next) fs s''
    rw[hK]
    exact again false n' s'' s'' _ hn (items_next hle hi) (Nat.le_of_succ_le hle) G'' rfl Kp.refl G''.own.1 G''.own.2
end
end
section
open PySem PySem.Spec PySem.Calls PyProof.Rows PySem.W
section
variable {C:Ctx} {env:Env} {N0:Heap} {x:Str} {t:Tok} {E I:Addr} {i:Nat} {pos:Int} {esc lv:Bool} {ch:Option V} {s s' s'' s₀:Shared} {A:Around}
theorem two_mem {b E I:Addr} (n: ¬(b=E∨b=I)):b∉[E,I]:=fun q=>n ((List.mem_cons.mp q).imp_right List.mem_singleton.mp)
theorem GInv.iters (K:CtxOk C) (G:GInv C env N0 x t E I i pos esc true ch s) (hc:env.cells=[]) (nL:env.locals≠E∧env.locals≠I) {h':Heap} {tk:Nat} (gg: ∀b o,s.heap.get? b=some o→ ¬(b=E∨b=I)→h'.get? b=some o)
  {σ:St} (R:Rel (C.pin fun g=>g=s.gens) env σ s) (l:σ.lists=fun _=>none) (r:σ.ro=fun _=>none):Rel (C.pin fun g=>g=s.gens) env σ {s with heap:=h',toks:=tk}:=
 have own: ∀b o,b=E∨b=I→s.heap.get? b=some o→ItCls o:=fun b o q e=>q.elim (fun q=>G.own.1 o (q▸e)) fun q=>G.own.2 o (q▸e)
 have cls: ∀{o:Obj},ItCls o→o.cls= .type "tuple" →False:=fun z c=>z.1.elim (fun q=>nomatch q.symm.trans c) fun q=>q.elim (fun q=>nomatch q.symm.trans c) fun q=>nomatch q.symm.trans c
 R.others K.pin (fun b=>b=E∨b=I) (fun b o n e=>gg b o e n) (fun b q=>q.elim (fun e=>e▸G.bE) fun e=>e▸G.bI) (fun b _=>by rw[l]) (fun q=>q.elim nL.1 nL.2) (fun y b e=>by rw[hc] at e;cases e)
  (fun b items q t=>t.elim fun o t=>cls (own b o q t.1) t.2.1) (fun b _=>by rw[r]) fun b o q e=>q.elim (fun q=>by subst q;exact (G.en rfl).elim fun old en=>two_at en e fun w=>not_code (congrArg Obj.data w).symm fun _ _ z=>nomatch Option.some.inj z)
   fun q=>by subst q;exact (G.it rfl).elim fun o' z=>two_at z.1 e fun w=>not_code ((congrArg Obj.data w).symm.trans z.2.2) fun _ _ z=>nomatch Option.some.inj z
theorem Kp.iters {L:Nat} (hk:Kp C L N0 s₀ s) (iE:ItAt s₀ E) (iI:ItAt s₀ I) (nE:N0.get? E=none) (nI:N0.get? I=none) (gg: ∀b o,s.heap.get? b=some o→ ¬(b=E∨b=I)→s'.heap.get? b=some o):Kp C L N0 s₀ s':=fun b o e n nt=>
 gg b o (hk b o e n nt) fun q=>q.elim (fun q=>n (.inr ⟨q▸nE,o,e,iE o (q▸e)⟩)) fun q=>n (.inr ⟨q▸nI,o,e,iI o (q▸e)⟩)
theorem gen_loop (W:Wk C) {items:List V} {fb:List Stmt} {k:Result→Sem Fin} {lvv:List Value} {p0:Pos} {K:Flow→Sem Fin} {H:Value→Sem Fin} (hs:env.scope=Sc9) (hE:EnvOk C env) (hc:env.cells=[]) (nL:env.locals≠E∧env.locals≠I) (hEI:E≠I)
  (hL:Lim 1 (A.over (.func fb env) [])) (hL2:Lim 1 (A.over (.forLoop (forTarget gFor) (.ref E) [gIf] [] env) [.ret k none (id false) lvv (.func fb env) p0 []]))
  (hk0:k (.ok .next)=(execs [gIf3] env).wrap K H id id) (hK:K .next= .pure (.done (.ret .none))) (cs:List Nat):GLoop C A env N0 items x t E I [.ret k none (id false) lvv (.func fb env) p0 []] cs:=by
 have W0:=WalksT.enumerateD (str_draws (C:=C) (A:=(A.over (.forLoop (forTarget gFor) (.ref E) [gIf] [] env) [.ret k none (id false) lvv (.func fb env) p0 []]).in1) hL2.handled I x t) E hEI (fun q=>hEI (List.mem_singleton.mp q)) (List.mem_singleton.mpr rfl)
 induction cs with
 |nil=>
  intro i pos esc n s₀ s hx hle hpos hn hi hnl G hg hk iE iI
  have hiz:i=x.cps.size:=Nat.le_antisymm hle (by rw[←Array.length_toList];exact List.drop_eq_nil_iff.mp hx)
  subst hiz
  refine g_forLoop (W0.done s _ _ ⟨G.en rfl,G.it rfl⟩ fun h' tk g=>g_block ?_)
  have gg: ∀b o,s.heap.get? b=some o→ ¬(b=E∨b=I)→h'.get? b=some o:=fun b o e n=>g b o (two_mem n) e
  rw[hk0]
  exact gen_tail W hs hE hc hL nL hn hi hpos (t:=t) (s:={s with heap:=h',toks:=tk}) (ch:=none) ⟨G.rel.casesOn fun σ R l r f v0 v1 v2 v3=>⟨σ,G.iters W.K hc nL (tk:=tk) gg R l r,l,r,f,v0,v1,v2,v3⟩,(fun w=>nomatch w),(fun w=>nomatch w),G.nE,G.nI,G.bE,G.bI⟩ hg (hk.iters iE iI G.nE G.nI gg) hK
 |cons c r ih=>
  intro i pos esc n s₀ s hx hle hpos hn hi hnl G hg hk iE iI
  have dx:=drop_at hx
  rw[Array.length_toList] at dx
  refine g_forLoop (W0.item i s _ _ dx.2.1 ⟨G.en rfl,G.it rfl⟩ fun T vals h' tk hPt hTs hTup hMid g=>?_)
  obtain ⟨t',x',⟨c',u,hc',rfl⟩,rfl⟩:=hPt
  cases Option.some.inj (hc'.symm.trans (Array.getElem?_toList.symm.trans dx.2.2))
  show wpAny _ _ (letOwnedTupleGo (forTarget gFor) (.ref E) (.ref T)) _ _ _
  rw[gTarget_eq]
  refine W0.go _ _ _ i T _ _ _ hMid fun h₂ hst₂ g₂=>?_
  rw[←gTarget_eq]
  -- the state behind
  have gg: ∀b o,s.heap.get? b=some o→ ¬(b=E∨b=I)→h₂.get? b=some o:=fun b o e n=>g₂ b o (two_mem n) (g b o (two_mem n) e)
  have rT:RelV (C.pin fun g=>g=s.gens) h₂ (.tup [.int (i:Int),.str ⟨#[c]⟩]) (.ref T):=
   ⟨T,_,rfl,hTup.imp fun o z=>⟨g₂ _ _ (W0.apart i T h' hMid) z.1,z.2⟩,RelVs.cons of_int (RelVs.cons of_str RelVs.nil)⟩
  clear g g₂ hTup hTs hMid hc'
  refine G.rel.casesOn fun σ R l rr f v0 v1 v2 v3=>wpAny_mono ((W9_tg (k:=1) (W.pin fun g=>g=s.gens)).2.go env _ σ {s with heap:=h₂,toks:=tk} (fun σ'=>σ'=setV (setV σ 1 (.int (i:Int))) 3 (.str ⟨#[c]⟩)) _ _ hs hE.pin hL2 (G.iters W.K hc nL gg R l rr) rT ⟨_,rfl,rfl,rfl⟩) (fun _ s₃ p=>p.casesOn fun σ' R3 S3 e=>?_) fun _ _ x=>x.elim
  subst e
  intro K' H' hK' _ _ _
  have hk3:=step_kept hc l S3
  have hgs:s₃.gens=s.gens:=R3.bare
  refine gen_turn W hs hE hc nL hL2 rfl rfl ih hx hn hi hnl ⟨⟨setV (setV σ 1 (.int (i:Int))) 3 (.str ⟨#[c]⟩),by rw[hgs];exact R3,l,rr,flat_set (flat_set f (.int _)) (.str _),v0,rfl,v2,fun y e=>e⟩,fun _=>hst₂.1.imp fun old en=>hk3 _ _ en (not_tab W.K G.bE) nL.1.symm,fun _=>hst₂.2.imp fun o z=>⟨hk3 _ _ z.1 (not_tab W.K G.bI) nL.2.symm,z.2⟩,G.nE,G.nI,G.bE,G.bI⟩
   (hgs.trans hg) (Kp.step (s:={s with heap:=h₂,toks:=tk}) (hk.iters iE iI G.nE G.nI gg) hk3) iE iI hK'
end
end
section
open PySem PySem.Spec PySem.Calls PyProof.Rows PySem.W
section
variable {C:Ctx} {env:Env} {N0:Heap} {x:Str} {t:Tok} {E I:Addr} {i:Nat} {pos:Int} {esc lv:Bool} {ch:Option V} {s s' s'' s₀:Shared} {A:Around} {k:Nat} {sc:Scope}
inductive EnAt (C:Ctx) (env:Env) (σ:St) (s:Shared) (x:Str) (v:Value) (s':Shared):Prop
 |mk (E I:Addr) (t:Tok) (e:v= .ref E) (n:E≠I) (en:IsEnum s'.heap E I (0:Nat) .none) (it:s'.heap.IsStrIter I (strIterType x) x t 0) (fE:s.heap.get? E=none) (fI:s.heap.get? I=none) (aE:Apart C env σ E) (aI:Apart C env σ I) (R:Rel C env σ s') (S:Step (XE C σ) σ σ s s'):EnAt C env σ s x v s'
structure SoundEn (C:Ctx) (k:Nat) (sc:Scope) (P:PT V) (e:Expr):Prop where
 go: ∀(env:Env) (A:Around) (σ:St) (s:Shared) (x:Str),env.scope=sc→EnvOk C env→Lim k A→Rel C env σ s→ptArgs [P] (fun l σ'=>l=[.str x]∧σ'=σ) σ→
  wpAny (model C.prog C.w) A (eval e env) (EnAt C env σ s x) NoE s
theorem Step.up {X:Addr→Prop} {σ σ':St} (S:Step X σ σ' s s') {b:Addr} (h:s'.heap.get? b=none):s.heap.get? b=none:=by
 cases z:s.heap.get? b with
 |none=>rfl
 |some o=>exact (S.there b o z).elim fun o' e'=>nomatch h.symm.trans e'
theorem get_size' {h:Heap}:h.get? (h.objs.size+1)=none:=by
 cases z:h.get? (h.objs.size+1) with
 |none=>rfl
 |some o=>exact absurd (Heap.lt_size z) (Nat.not_lt.mpr (Nat.le_succ _))
theorem e_enum (K:CtxOk C) {P:PT V} {e:Expr} {np pos:Pos} {mg mb:Str→Option Value} (hg:Globs C mg mb) (hmiss:mg (Str.ofString "enumerate")=none) (hv:mb (Str.ofString "enumerate")=some (.type "enumerate"))
  (hl:sc.names.lookup (Str.ofString "enumerate")=some .globalImplicit) (ha:SoundEs C k sc [P] [e]):SoundEn C k sc P (.Call (.Name (Str.ofString "enumerate") np) [e] [] pos):= .mk fun env A σ s x hs hE hL hR q=>
 wpAny_Call_NameR (s_glob_builtin hg hmiss hv (by unfold Env.kindOf;rw[hs];exact hl) hE hR (callWith_type1 (wpL (args_sound K ha hs hE hL hR q) fun vs s₁ l σ₁ r1 R1 S1 v1 q=>by
  obtain ⟨rfl,rfl⟩:=q
  exact r1.e1 fun v r=>r.eS fun t=>call_enumerate_str fun h' hen hit hsz g=>
   ⟨_,_,t,rfl,Nat.succ_ne_self _,hen,hit,S1.up get_size',S1.up (get_size _),R1.free K get_size',R1.free K (get_size _),R1.grow K (tk:=s₁.toks) g,S1.transE (Step.grow (tk:=s₁.toks) g)⟩) (ha.hd env) rfl) (by decide))
end
end
section
open PySem PySem.Spec PySem.Calls PyProof.Rows PySem.W
section
variable {C:Ctx} {env:Env} {N0:Heap} {x:Str} {t:Tok} {E I:Addr} {i:Nat} {pos:Int} {esc lv:Bool} {ch:Option V} {s s' s'' s₀:Shared} {A:Around} {k:Nat} {sc:Scope}
theorem W9_it (W:Wk C):SoundEn C k Sc9 (ptVar 0) (forIter gFor):=e_enum W.K W.gl W.m_enumerate W.b_enumerate Sc9_4.look (.c (v_loc 0 Sc9_0) rfl .nil)
noncomputable def Alive (N0:Heap) (s:Shared):Prop:= ∀b o,N0.get? b=some o→ ∃o',s.heap.get? b=some o'
theorem lim_func (hL:Lim (k+1) A) {fb:List Stmt}:Lim k (A.over (.func fb env) []):=⟨hL.handled,by have:=hL.depth;show A.depth+0+1+k≤900;lia,by have:=hL.units;show A.units+0+3+12*k≤9000;lia⟩
theorem lim_for (hL:Lim (k+1) A) {fb:List Stmt} {tg:Expr} {it:Value} {b o:List Stmt} {kk:Result→Sem Fin} {l:List Value} {p:Pos}:Lim k (A.over (.forLoop tg it b o env) [.ret kk none (id false) l (.func fb env) p []]):=
 ⟨hL.handled,by have:=hL.depth;show A.depth+(1+0)+0+k≤900;lia,by have:=hL.units;show A.units+(3+0)+0+12*k≤9000;lia⟩
inductive GArg (C:Ctx) (env:Env) (x:Str) (s:Shared):Prop
 |mk (σ:St) (R:Rel (C.pin fun g=>g=s.gens) env σ s) (l:σ.lists=fun _=>none) (r:σ.ro=fun _=>none) (f:flat σ) (v0:σ.vars 0=some (.str x)):GArg C env x s
theorem gen_start (W:Wk C) (hs:env.scope=Sc9) (hE:EnvOk C env) (hc:env.cells=[]) (hL:Lim 2 A) (al:Alive N0 s) (hR:GArg C env x s):
  SegG C A env N0 (escs x.cps.toList 0 false) (escs x.cps.toList 0 false).length s (.func (fdBody (st 9)) env) ((model C.prog C.w).den (.func (fdBody (st 9)) env)) [] s:=by
 refine seg_func ?_
 have hL1:Lim 1 (A.over (.func (fdBody (st 9)) env) []):=lim_func hL
 rw[gBody_eq] at hL1⊢
 refine hR.casesOn fun σ R l r f v0=>g_plain ((W9_s0 (k:=1) (W.pin fun g=>g=s.gens)).2.gbind (fun fl σ'=>fl= .next∧σ'=setV σ 1 (.int 0)) hs hE hL1 R ⟨rfl,rfl⟩ fun fl s₁ g σ' rf R1 S1 q=>?_)
 obtain ⟨rfl,rfl⟩:=q
 cases (show fl= .next from rf)
 refine g_plain ((W9_s1 (k:=1) (W.pin fun g=>g=s.gens)).2.gbind (fun fl σ'=>fl= .next∧σ'=setV (setV σ 1 (.int 0)) 2 (.bool false)) hs hE hL1 R1 ⟨rfl,rfl⟩ fun fl s₂ g σ' rf R2 S2 q=>?_)
 obtain ⟨rfl,rfl⟩:=q
 cases (show fl= .next from rf)
 have hk1:=step_kept hc l S1
 have hk2:=step_kept hc (σ:=setV σ 1 (.int 0)) l S2
 have f':flat (setV (setV σ 1 (.int 0)) 2 (.bool false)):=flat_set (flat_set f (.int _)) (.bool _)
 replace v0:(setV (setV σ 1 (.int 0)) 2 (.bool false)).vars 0=some (.str x):=v0
 have v1:(setV (setV σ 1 (.int 0)) 2 (.bool false)).vars 1=some (.int 0):=rfl
 have v2:(setV (setV σ 1 (.int 0)) 2 (.bool false)).vars 2=some (.bool false):=rfl
 replace l:(setV (setV σ 1 (.int 0)) 2 (.bool false)).lists=fun _=>none:=l
 replace r:(setV (setV σ 1 (.int 0)) 2 (.bool false)).ro=fun _=>none:=r
 have up: ∀{b},s₂.heap.get? b=none→s.heap.get? b=none:=fun h=>S1.up (S2.up h)
 clear S1 S2 R1 R f
 generalize setV (setV σ 1 (.int 0)) 2 (.bool false)=τ at*
 refine seg_execs_cons ?_
 rw[gFor_eq]
 refine g_for (fun x=>by rfl) (wpAny_mono ((W9_it (k:=1) (W.pin fun g=>g=s.gens)).go env _ _ s₂ x hs hE.pin hL1 R2 ⟨_,v0,rfl,rfl⟩) (fun v s₃ p=>p.casesOn fun E I t e hEI hen hit fE fI aE aI R3 S3=>e▸wpAny_pyIter_enum hen fun p kk hkk=>?_) fun _ _ x=>x)
 have hk3:=step_kept hc l (Step.ES (env:=env) S3)
 have al': ∀{b},s₂.heap.get? b=none→N0.get? b=none:=fun {b} h=>by
  cases z:N0.get? b with
  |none=>rfl
  |some o=>exact (al b o z).elim fun o' e'=>nomatch (up h).symm.trans e'
 have hg3:s₃.gens=s.gens:=R3.bare
 exact gen_loop (t:=t) W hs hE hc ⟨aE.loc.symm,aI.loc.symm⟩ hEI hL1 (by rw[←gBody_eq];exact lim_for hL) (by rw[hkk]) rfl x.cps.toList 0 0 false _ s s₃ rfl (Nat.zero_le _) (fun w=>nomatch w) rfl (by rw[Nat.sub_self];rfl) (Nat.le_refl _)
  ⟨⟨τ,by rw[hg3];exact R3,l,r,f',v0,v1,v2,fun y e=>nomatch e⟩,fun _=>⟨_,hen⟩,fun _=>hit,al' fE,al' fI,aE.base,aI.base⟩ hg3 (fun b o e n nt=>hk3 b o (hk2 b o (hk1 b o e nt fun q=>n (.inl q)) nt fun q=>n (.inl q)) nt fun q=>n (.inl q))
  (fun o e=>nomatch (up fE).symm.trans e) fun o e=>nomatch (up fI).symm.trans e
end
end
section
open PySem PySem.Spec PySem.Calls PyProof.Rows PySem.W
section
variable {C:Ctx} {env:Env} {N0:Heap} {s s' s'' s₀ s₁:Shared} {A:Around} {k:Nat} {sc:Scope} {σ:St} {L:Addr}
theorem setGen_push {G:Array GenState} {st x:GenState} (h:s.gens=G.push st):(s.setGen G.size x).gens=G.push x:=by
 show (s.gens.setIfInBounds G.size x)=_
 rw[h]
 refine Array.ext_getElem? fun i=>?_
 rw[Array.getElem?_setIfInBounds,Array.getElem?_push,Array.getElem?_push,Array.size_push]
 by_cases c:i=G.size
 ·subst c
  rw[if_pos rfl,if_pos (Nat.lt_succ_self _),if_pos rfl]
 ·rw[if_neg (Ne.symm c),if_neg c,if_neg c]
inductive GReady (C:Ctx) (A:Around) (L:Nat) (N0:Heap) (items:List V) (j:Nat) (G:Array GenState) (s:Shared):Prop
 |mk (gs:GenState) (e:s.gens=G.push gs) (f: ∀s'',BaseOk C s''→Alive N0 s''→(∀b o,s.heap.get? b=some o→Own L N0 s.heap b→s''.heap.get? b=some o)→gs.Goes (model C.prog C.w) A.in1 (RG C L N0) (YG C L N0 items) (items.length-j) (.send .none) s''):GReady C A L N0 items j G s
theorem GReady.keep {items:List V} {j:Nat} {G:Array GenState} (R:GReady C A L N0 items j G s) (hg:s'.gens=s.gens) (h: ∀b o,s.heap.get? b=some o→Own L N0 s.heap b→s'.heap.get? b=some o):GReady C A L N0 items j G s':=
 R.casesOn fun gs e f=>⟨gs,hg.trans e,fun s'' B al k=>f s'' B al fun b o q w=>k b o (h b o q w) (w.imp_right fun w=>⟨w.1,w.2.imp fun o' z=>⟨h b o' z.1 (.inr ⟨w.1,o',z⟩),z.2⟩⟩)⟩
theorem left_at {n j m:Nat} (h:n-j=m+1):n-(m+1-1+1)=j∧n-(j+1)=m:=
 ⟨show n-(m+1)=j from h▸Nat.sub_sub_self (Nat.le_of_lt (Nat.lt_of_sub_pos (h▸Nat.succ_pos m))),(Nat.sub_add_eq n j 1).trans (congrArg (· -1) h)⟩
theorem g_next {a:Addr} {items:List V} {j:Nat} {G:Array GenState} {Q:Option Value→Shared→Prop} (hh:A.handled=none) (hl:s.heap.NoLimit) (hroom:A.depth<recursionLimit) (hI:s.heap.IsGen a G.size) (R:GReady C A L N0 items j G s) (B:BaseOk C s) (al:Alive N0 s)
  (hY: ∀item v s₁,items[j]? =some item→RelV C s₁.heap item v→BaseOk C s₁→Kp C L N0 s s₁→FrD L s₁→GReady C A L N0 items (j+1) G s₁→Q (some v) s₁)
  (hP: ∀s₁,items.length≤j→BaseOk C s₁→s₁.gens=G.push .finished→Kp C L N0 s s₁→Q none s₁) (K:CtxOk C) (hjl:j≤items.length):
  wpAny (model C.prog C.w) A (pyNext (.ref a)) Q NoE s:=by
 refine R.casesOn fun gs e f=>?_
 have hrun:(s.setGen G.size .running).gens=G.push .running:=setGen_push e
 refine wpAny_pyNext_gen (P:=REnd C L N0) (Y:=YG C L N0 items) hh hl hroom hI (by rw[e];exact Array.getElem?_push_size) (f (s.setGen G.size .running) ⟨B.keep,B.tab,B.os⟩ al fun b o q _=>q) (fun v s₁ gs' p=>p.casesOn fun item h1 h2 h3 h4 h5 h6 h7=>?_)
  fun s₁ p h' hk=>p.casesOn fun h1 h2 h3 h4=>hP _ (Nat.sub_eq_zero_iff_le.mp h1) ⟨fun b o q n=>hk b o (h2.keep b o q n),K.kept _ _ h2.tab fun b o q _=>hk b o q,h2.os⟩ (setGen_push (h3.trans hrun)) fun b o q n t=>hk b o (h4 b o q n t)
 generalize hn:items.length-j=n at h1 h7
 cases n with
 |zero=>exact (h7 s₁ h3 fun b o q _=>q).elim
 |succ m=>
  have e1:=left_at hn
  rw[e1.1] at h1
  exact hY item v _ h1 h2 ⟨h3.keep,h3.tab,h3.os⟩ (fun b o q n t=>h5 b o q n t) h6 ⟨gs',setGen_push (h4.trans hrun),fun s'' B'' _ kk=>e1.2.symm▸h7 s'' B'' fun b o q w=>kk b o q w⟩
theorem Kp.at (hk:Kp C L N0 s s₁) (b:Addr) (o:Obj) (e:s.heap.get? b=some o) (n:b≠L) (nt:b∉C.tabs) (d: ∀vs,o.data≠ .fields vs):s₁.heap.get? b=some o:=
 hk b o e (fun w=>w.elim n fun w=>w.2.elim fun o' z=>z.2.2.elim fun vs d'=>two_at e z.1 fun q=>d vs (q▸d')) nt
theorem Rel.apart (K:CtxOk C) (hE:EnvOk C env) (R:Rel C env σ s) (B:BaseOk C s₁) (hg:C.gOk s₁.gens) (hk:Kp C L N0 s s₁) (fr:FrD L s) (aL:Apart C env σ L) (hr:σ.ro=fun _=>none):Rel C env σ s₁:=by
 have gt: ∀a items,IsTup s.heap a items→IsTup s₁.heap a items:=fun a items t=>IsTup.kept t fun o e=>tup_at t fun o' n e' d=>two_at e e' fun w=>by
  subst w
  exact hk.at a o e (fun q=>fr.elim fun oL z=>z.elim fun es z=>z.elim fun ep z=>data_at e (q▸z.1) d z.2 fun w=>nomatch w) (fun q=>tab_tup K R.tab q t) fun vs d'=>nomatch d.symm.trans d'
 have gc: ∀{x:Str} {c:Addr} {v:Option Value},env.cells.lookup x=some c→s.heap.IsCell c v→s₁.heap.IsCell c v:=fun hx z=>z.imp fun o z=>
  ⟨hk.at _ o z.1 (fun q=>aL.cell _ (q▸hx)) (not_tab K (hE.cfresh _ _ (PySem.mem_of_lookup hx))) (fun vs d'=>nomatch z.2.symm.trans d'),z.2⟩
 exact ⟨B,hg,R.vars.imp fun m z=>⟨z.1.imp fun o z=>z.imp fun es z=>z.imp fun ep z=>⟨hk.at _ o z.1 (Ne.symm aL.loc) (not_tab K hE.fresh) (fun vs d'=>nomatch z.2.1.symm.trans d'),z.2⟩,fun i v e=>(z.2 i v e).move (RelV.kept gt) gc⟩,
  fun a xs e=>(R.lists a xs e).casesOn fun items l r b=>⟨items,l.imp fun n e1=>hk.at a _ e1 (ne_at e aL.lst) (not_tab K b) (fun vs d'=>nomatch d'),RelVs.kept gt r,b⟩,fun x c e=>(R.cells x c e).imp fun v z=>gc e z,fun a o e=>by rw[hr] at e;cases e⟩
end
end
section
open PySem PySem.Spec PySem.Calls PyProof.Rows PySem.W
section
variable {C:Ctx} {env:Env} {N0:Heap} {s s' s'' s₀ s₁ s₂:Shared} {A:Around} {k:Nat} {sc:Scope} {σ σ₁:St} {L:Addr} {x:Str}
noncomputable def escV (x:Str):List V:=escs x.cps.toList 0 false
structure GMade (C:Ctx) (env:Env) (σ:St) (s₂ s':Shared) (x:Str) (a L:Addr):Prop where
 gen:s'.heap.IsGen a s₂.gens.size
 ready: ∀A,Lim 3 A→GReady C A L s₂.heap (escV x) 0 s₂.gens s'
 frd:FrD L s'
 aL:Apart C env σ L
 aa:Apart C env σ a
 fL:s₂.heap.get? L=none
 fa:s₂.heap.get? a=none
 ne:a≠L
 rel:Rel (C.pin fun _=>True) env σ s'
 grow:Grow s₂.heap s'.heap
 os:s'.os=s₂.os
theorem Rel.gens (R:Rel C env σ s) {g:Array GenState} (h:C.gOk g):Rel C env σ {s with gens:=g}:=⟨⟨R.keep,R.tab,R.os⟩,h,R.vars,R.lists,R.cells,R.ro⟩
noncomputable def argSt (x:Str):St:=⟨fun j=>if j=0 then some (.str x) else none,fun _=>none,fun _=>none⟩
theorem argSt_to {x:Str} {j:Nat} {v:V} {P:Prop} (e:(argSt x).vars j=some v) (f:j=0→v= .str x→P):P:=by
 by_cases c:j=0
 ·exact f c (Option.some.inj (((if_pos c).symm.trans e)).symm)
 ·exact nomatch (if_neg c).symm.trans e
theorem gen_arg {ge:Env} {m:Str→Option Value} {t:Tok} (B:BaseOk C s) (ns:s.heap.Ns ge.locals m) (hm:m (Str.ofString "addr")=some (.str x t)) (e1:ge.scope=Sc9) (e3:ge.cells=[]):GArg C ge x s:=
 ⟨argSt x,⟨⟨B.keep,B.tab,B.os⟩,rfl,⟨m,ns,fun j v e=>argSt_to e fun c d=>by
   subst c
   subst d
   exact ⟨Str.ofString "addr",.local,by rw[e1];exact Sc9_0.get,.str x t,of_str,fun _=>hm,fun n=>absurd rfl n⟩⟩,(fun a xs e=>nomatch e),(fun y c e=>by rw[e3] at e;cases e),fun a o e=>nomatch e⟩,
  rfl,rfl,fun j v e=>argSt_to e fun _ d=>d▸ .str x,rfl⟩
theorem Ns.frd {h:Heap} {m:Str→Option Value} (ns:h.Ns L m) (e:s.heap=h):FrD L s:=ns.imp fun o z=>z.imp fun es z=>z.imp fun ep z=>⟨e▸z.1,z.2.1⟩
theorem Ns.ne {h:Heap} {m:Str→Option Value} (ns:h.Ns L m) {a:Addr} (e:h.get? a=none):a≠L:=fun q=>ns_at ns fun _ _ _ z _=>nomatch (q▸e).symm.trans z
theorem no_cell {y:Str×NameKind} (m:y∈Sc9.names) (e:y.2= .cell):False:=by
 have:=List.all_eq_true.mp (show (Sc9.names.all fun p=> !(p.2== .cell))=true by kernel_rfl) _ m
 rw[e] at this
 cases this
theorem env9 {ge:Env} (e1:ge.scope=Sc9) (e3:ge.cells=[]) (e4:ge.globals=mainGlobals) (e5:ge.builtins=builtinsNs) (e2:C.base.get? ge.locals=none):EnvOk C ge:=
 ⟨by rw[e1];kernel_rfl,e4,e5,by rw[e1];exact of_decide_eq_true (by kernel_rfl),e2,by rw[e3];exact List.Pairwise.nil,(fun y c h=>by rw[e3] at h;cases h),fun y h=>by
  rw[e1] at h
  exact (no_cell (PySem.mem_of_lookup h) rfl).elim⟩
theorem gen_call (W:Wk C) {t:Tok} {Q:Value→Shared→Prop} (hE:EnvOk C env) (hL:Lim (k+1) A) (R:Rel C env σ s) (q: ∀a L s',GMade C env σ s s' x a L→Q (.ref a) s'):wpAny (model C.prog C.w) A (call (.ref W.a__iter_escaped_chars) [.str x t]) Q NoE s:=by
 refine W.f__iter_escaped_chars.ob.casesOn fun o pm cd doc h1 h2 h3=>wpAny_call (codeAny_call_generator (fd:=docDef (Str.ofString "_iter_escaped_chars") (fdArgs (st 9)) (fdBody (st 9)) (fdScope (st 9)) pm cd doc) (body:=fdBody (st 9)) (Nat.lt_of_le_of_lt (Nat.le_trans (Nat.le_add_right _ _) hL.depth) (by decide)) (R.keep _ _ h1 W.f__iter_escaped_chars.nt) h2 (by kernel_rfl) (by kernel_rfl) rfl (h3.out R.g) ?_)
 rw[show bindArgs (docDef (Str.ofString "_iter_escaped_chars") (fdArgs (st 9)) (fdBody (st 9)) (fdScope (st 9)) pm cd doc) ⟨[.str x t],[]⟩=pure [(Str.ofString "addr",.str x t)] from rfl]
 refine wpAny_pure (wpAny_newFunctionEnv (fun y hy e=>no_cell hy e) (fun y hy=>by cases List.mem_singleton.mp hy;exact Sc9_0.look) (fun h' hns hsb=>?_) (by kernel_rfl))
 generalize s.toks+[(Str.ofString "addr",Value.str x t)].length=tk
 generalize henv:newEnv (fdScope (st 9)) s.heap.objs.size mainGlobals [] ((Str.ofString "_iter_escaped_chars")++".<locals>.") (some W.a__iter_escaped_chars) cd none builtinsNs=ge
 have e1:ge.scope=Sc9:=by rw[←henv];rfl
 have e2:ge.locals=s.heap.objs.size:=by rw[←henv];rfl
 have e3:ge.cells=[]:=by rw[←henv];rfl
 have hEg:EnvOk C ge:=env9 e1 e3 (by rw[←henv];rfl) (by rw[←henv];rfl) (by rw[e2];exact (R.free W.K (get_size _)).base)
 have g:Grow s.heap h':=fun b o e=>(hsb.2 b (ne_at e (get_size _))).trans (Heap.get?_push_of_some _ e)
 have gg: ∀go,Grow h' (h'.push go):=fun go=> .push _
 have sA:s.heap.get? h'.objs.size=none:=by
  cases z:s.heap.get? h'.objs.size with
  |none=>rfl
  |some o=>exact nomatch (get_size h').symm.trans (g _ _ z)
 have hns': ∀go,(h'.push go).Ns s.heap.objs.size (fun y=>[(Str.ofString "addr",Value.str x t)].reverse.lookup y):=fun go=>(gg go).ns hns
 refine ⟨TopOk.limit W.T0 (σ:=σ) (R.grow W.K (tk:=tk) g).g,q _ s.heap.objs.size _ ⟨⟨_,_,_,Heap.get?_push_size _ rfl,rfl,rfl,rfl⟩,fun A' hL'=>⟨.fresh (.func (fdBody (st 9)) ge),by rw[←henv];rfl,fun s'' B al own=>⟨rfl,?_⟩⟩,Ns.frd (hns' _) rfl,R.free W.K (get_size _),R.free W.K sA,get_size _,sA,Ns.ne hns (get_size _),?_,g.trans (gg _),rfl⟩⟩
 ·rw[Nat.sub_zero]
  have fin:=gen_start (N0:=s.heap) (x:=x) (s:=s'') (A:=A'.in1) W e1 hEg e3 ⟨hL'.handled,Nat.le_trans (Nat.add_le_add_left (by decide) _) hL'.depth,by have:=hL'.units;show A'.units+1+24≤9000;lia⟩ al
   (gen_arg B (t:=t) ((hns' _).imp fun o z=>z.imp fun es z=>z.imp fun ep z=>⟨by rw[e2];exact own _ _ z.1 (.inl rfl),z.2⟩) rfl e1 e3)
  unfold SegG at fin
  rw[e2] at fin
  exact fin
 ·subst henv
  exact ((R.pin (p:=fun _=>True) trivial).grow W.K.pin (tk:=tk+1+1) (g.trans (gg _))).gens trivial
end
end
section
open PySem PySem.Spec PySem.Calls PyProof.Rows PySem.W
section
variable {C:Ctx} {env:Env} {N0:Heap} {s s' s'' s₀ s₁ s₂:Shared} {A:Around} {k:Nat} {sc:Scope} {σ σ' σ₁:St} {L:Addr} {x:Str}
inductive StrGo (Z:Str→St→Prop) (l:List V) (σ:St):Prop
 |mk (x:Str) (e:l=[.str x]) (hr:σ.ro=fun _=>none) (q:Z x σ):StrGo Z l σ
inductive EGen (C:Ctx) (env:Env) (σ:St) (s:Shared) (Q:Str→St→Prop) (v:Value) (s':Shared):Prop
 |mk (x:Str) (σ₁:St) (s₂:Shared) (a L:Addr) (e:v= .ref a) (M:GMade C env σ₁ s₂ s' x a L) (R:Rel C env σ₁ s₂) (S:Step (XE C σ) σ σ₁ s s₂) (v1:σ₁.vars=σ.vars) (hr:σ₁.ro=fun _=>none) (q:Q x σ₁):EGen C env σ s Q v s'
theorem e_gen (W:Wk C) {P:PT V} {e:Expr} {np pos:Pos} {j:Nat} (hn:NameOk sc j (Str.ofString "_iter_escaped_chars") .globalImplicit) (ha:SoundEs C (k+1) sc [P] [e]) (hs:env.scope=sc) (hE:EnvOk C env) (hL:Lim (k+1) A) (hR:Rel C env σ s)
  {Q:Str→St→Prop} (q:ptArgs [P] (StrGo Q) σ):wpAny (model C.prog C.w) A (eval (.Call (.Name (Str.ofString "_iter_escaped_chars") np) [e] [] pos) env) (EGen C env σ s Q) NoE s:=
 W.f__iter_escaped_chars.ob.casesOn fun o pm cd doc h1 h2 h3=>wpAny_Call_NameR ((s_glob W.gl1 W.f__iter_escaped_chars.g (fun _=>of_fn) hn.look hn.dbg:SoundE C (k+1) sc (ptGlob (.fn W.a__iter_escaped_chars)) (.Name (Str.ofString "_iter_escaped_chars") np)).bind
  (Q:=fun d σ₁=>d= .fn W.a__iter_escaped_chars∧ptArgs [P] (StrGo Q) σ₁) hs hE hL hR ⟨rfl,q⟩ fun v s₁ d σ₁ r1 R1 S1 v1 q=>by
   cases rel_fn (q.1▸r1)
   exact callWith_def h2 (wpL (args_sound W.K ha hs hE hL R1 q.2) fun vs s₂ xs σ₂ r2 R2 S2 v2 q'=>q'.casesOn fun x e hr q=>by
    subst e
    exact r2.e1 fun v r3=>r3.eS fun t=>⟨R2.keep _ _ h1 W.f__iter_escaped_chars.nt,gen_call W hE hL R2 fun a L s' M=>⟨x,σ₂,s₂,a,L,rfl,M,R2,S1.transE S2,v2.trans v1,hr,q⟩⟩) (ha.hd env))
theorem ItCls.not {o:Obj} {n:String} (h:ItCls o) (e:o.cls= .type n) (f:n≠"enumerate" ∧n≠"str_iterator" ∧n≠"str_ascii_iterator"):False:=
 have g: ∀{m:String},o.cls= .type m→n=m:=fun c=>Value.type.inj (e.symm.trans c)
 h.1.elim (fun c=>f.1 (g c)) fun c=>c.elim (fun c=>f.2.1 (g c)) fun c=>f.2.2 (g c)
theorem ItCls.notXS (K:CtxOk C) (R:Rel C env σ s) {b:Addr} {o:Obj} (e:s.heap.get? b=some o) (h:ItCls o): ¬XS C env σ b:=fun x=>h.2.elim fun vs hd=>by
 rcases x with x|rfl|⟨n,x,_⟩
 ·exact x.listed (fun l hl=>(R.lists _ _ hl).casesOn fun it l _ _=>list_at l fun o' n e' d=>data_at e e' hd d fun z=>nomatch z) fun t=>(K.none _ R.tab b t).elim fun o' z=>two_at e z.1 fun q=>by
   subst q
   exact h.1.elim (fun c=>nomatch c.symm.trans z.2) fun c=>c.elim (fun c=>nomatch c.symm.trans z.2) fun c=>nomatch c.symm.trans z.2
 ·exact R.vars.elim fun m z=>ns_at z.1 fun o' _ _ e' d=>data_at e e' hd d fun z=>nomatch z
 ·exact (R.cells n b x).elim fun v z=>cell_at z fun o' e' d=>data_at e e' hd d fun z=>nomatch z
structure GCons (C:Ctx) (env:Env) (A:Around) (N0:Heap) (items:List V) (G:Array GenState) (a L:Addr) (i:Nat) (σ:St) (s:Shared):Prop where
 gen:s.heap.IsGen a G.size
 ready:GReady C A L N0 items i G s
 frd:FrD L s
 aL:Apart C env σ L
 aa:Apart C env σ a
 ne:a≠L
 al:Alive N0 s
 rel:Rel (C.pin fun _=>True) env σ s
 ro:σ.ro=fun _=>none
theorem Apart.back (h:Apart C env σ L) {o:Obj} {X:Addr→Prop} (e:s.heap.get? L=some o) (S:Step X σ σ' s s') (hr:σ'.ro=fun _=>none):Apart C env σ' L:=⟨S.dom L o e h.lst,by rw[hr],h.base,h.loc,h.cell⟩
theorem GCons.own (K:CtxOk C) {items:List V} {G:Array GenState} {a:Addr} {i:Nat} (H:GCons C env A N0 items G a L i σ s) {p:Array GenState→Prop} (hp:p=fun g=>g=s.gens) (R:Rel (C.pin p) env σ s) (R':Rel (C.pin p) env σ' s') (S:Step (XS C env σ) σ σ' s s') (hr:σ'.ro=fun _=>none):GCons C env A N0 items G a L i σ' s':=by
 subst hp
 have k:=fun {b} {o} (h:Apart C env σ b) (e:s.heap.get? b=some o)=>S.kept b o e (h.notXS K)
 exact ⟨H.gen.imp fun o z=>z.imp fun nm z=>z.imp fun qn z=>⟨k H.aa z.1,z.2⟩,H.ready.keep R'.bare fun b o e w=>w.elim (fun w=>k H.aL (w▸e)|>fun z=>w▸z) fun w=>w.2.elim fun o' z=>two_at e z.1 fun q=>S.kept b o e (ItCls.notXS (C:=C.pin fun g=>g=s.gens) K.pin R e (q▸z.2)),
  H.frd.imp fun o z=>z.imp fun es z=>z.imp fun ep z=>⟨k H.aL z.1,z.2⟩,H.frd.elim fun o z=>z.elim fun es z=>z.elim fun ep z=>H.aL.back z.1 S hr,H.gen.elim fun o z=>z.elim fun nm z=>z.elim fun qn z=>H.aa.back z.1 S hr,H.ne,fun b o e=>(H.al b o e).elim fun o' e'=>S.there b o' e',R'.pin trivial,hr⟩
theorem gen_kept {a:Addr} {n:Nat} (hk:Kp C L N0 s s₁) (g:s.heap.IsGen a n) (ne:a≠L) (nt:a∉C.tabs):s₁.heap.IsGen a n:=g.imp fun oa z=>z.imp fun nm z=>z.imp fun qn z=>
 ⟨hk a oa z.1 (fun w=>w.elim ne fun w=>w.2.elim fun o' y=>two_at z.1 y.1 fun q=>y.2.not (q▸z.2.1) (by decide)) nt,z.2⟩
theorem alive_kept (K:CtxOk C) (B:BaseOk C s₁) (hk:Kp C L N0 s s₁) (fr:FrD L s₁) (al:Alive N0 s):Alive N0 s₁:=fun b o e=>(al b o e).elim fun o' e'=>by
 by_cases t:b∈C.tabs
 ·exact (K.none _ B.tab b t).imp fun o'' z=>z.1
 ·by_cases bl:b=L
  ·exact fr.elim fun oL z=>z.elim fun es z=>z.elim fun ep z=>⟨oL,bl▸z.1⟩
  ·exact ⟨o',hk b o' e' (fun w=>w.elim bl fun w=>nomatch w.1.symm.trans e) t⟩
theorem GCons.relK (K:CtxOk C) (hE:EnvOk C env) {items:List V} {G:Array GenState} {a:Addr} {i:Nat} (H:GCons C env A N0 items G a L i σ s) (B:BaseOk C s₁) (hk:Kp C L N0 s s₁):Rel (C.pin fun _=>True) env σ s₁:=
 Rel.apart K.pin hE.pin H.rel ⟨B.keep,B.tab,B.os⟩ trivial hk H.frd ⟨H.aL.lst,H.aL.ro,H.aL.base,H.aL.loc,H.aL.cell⟩ H.ro
theorem GCons.item (K:CtxOk C) (hE:EnvOk C env) {items:List V} {G:Array GenState} {a:Addr} {i j:Nat} (H:GCons C env A N0 items G a L i σ s) (B:BaseOk C s₁) (hk:Kp C L N0 s s₁) (fr:FrD L s₁) (gr:GReady C A L N0 items j G s₁):GCons C env A N0 items G a L j σ s₁:=
 ⟨gen_kept hk H.gen H.ne (not_tab K H.aa.base),gr,fr,H.aL,H.aa,H.ne,alive_kept K B hk fr H.al,H.relK K hE B hk,H.ro⟩
noncomputable def gK (P:St→Prop):Fl→St→Prop:=fun f σ₂=>match f with
 | .next| .cont=>P σ₂
 |_=>False
inductive ForOkG (xs:List V) (T:AT) (B:PT Fl) (QF:Fl→St→Prop) (σ:St):Prop
 |mk (J:Nat→St→Prop) (h0:J 0 σ) (hr: ∀i σ,J i σ→σ.ro=fun _=>none) (hs: ∀i x σ,xs[i]? =some x→J i σ→T x (B (gK (J (i+1)))) σ) (he: ∀σ,J xs.length σ→QF .next σ):ForOkG xs T B QF σ
noncomputable def ptForG (P:PT V) (T:AT) (B:PT Fl):PT Fl:=fun Q σ=>ptArgs [P] (StrGo fun x σ₁=>ForOkG (escV x) T B Q σ₁) σ
inductive ForGI (C:Ctx) (env:Env) (A:Around) (N0:Heap) (items:List V) (G:Array GenState) (a L:Addr) (σ:St) (s:Shared) (J:Nat→St→Prop) (n:Nat) (s':Shared):Prop
 |mk (i:Nat) (σ':St) (hn:n+i=items.length) (hJ:J i σ') (H:GCons C env A N0 items G a L i σ' s') (S:Step (XS C env σ) σ σ' s s'):ForGI C env A N0 items G a L σ s J n s'
theorem GCons.stp (K:CtxOk C) {items:List V} {G:Array GenState} {a:Addr} {i:Nat} (H:GCons C env A N0 items G a L i σ' s') (S:Step (XS C env σ) σ σ' s s') (nL:s.heap.get? L=none) (nN: ∀b o,s.heap.get? b=some o→N0.get? b≠none) (B:BaseOk C s₁) (hk:Kp C L N0 s' s₁):Step (XS C env σ) σ σ' s s₁:=by
 have nf: ∀b o,s.heap.get? b=some o→ ∀o',s'.heap.get? b=some o'→b∉C.tabs→s₁.heap.get? b=some o':=fun b o e o' e' nt=>hk b o' e' (fun w=>w.elim (ne_at e nL) fun w=>nN b o e w.1) nt
 exact ⟨fun b o e nx=>nf b o e o (S.kept b o e nx) fun t=>nx (.inl (.inr t)),fun b o e=>by
  by_cases t:b∈C.tabs
  ·exact (K.none _ B.tab b t).imp fun o'' z=>z.1
  ·exact (S.there b o e).imp fun o' e'=>nf b o e o' e' t,S.dom,S.mono,S.rod⟩
theorem s_forG (W:Wk C) (hG:C.gOk=AllBare) {P:PT V} {T:AT} {B:PT Fl} {target e:Expr} {np ipos pos:Pos} {body:List Stmt} {j:Nat} (hn:NameOk sc j (Str.ofString "_iter_escaped_chars") .globalImplicit) (ha:SoundEs C (k+3) sc [P] [e])
  (ht: ∀p,SoundA (C.pin p) (k+3) sc T target) (hb: ∀p,SoundS (C.pin p) (k+3) sc B body) (hro: ∀(Q:St→Prop) x σ,T x Q σ→T x (fun σ'=>Q σ'∧σ'.ro=σ.ro) σ):
  Sound1 C (k+3) sc (ptForG P T B) (.For target (.Call (.Name (Str.ofString "_iter_escaped_chars") np) [e] [] ipos) body [] pos):= .mk fun env A σ s Q hs hE hL hR q=>by
 refine wpAny_For (wpAny_mono (e_gen W hn ha hs hE hL hR q) (fun v s₁ p=>p.casesOn fun x σ₁ s₂ a L e1 M R2 S2 v2 hr0 q=>e1▸wpAny_pyIter_gen M.gen ?_) fun _ _ x=>x) (fun x=>rfl)
 refine q.casesOn fun J j0 hJr hst hend=>codeAny_forLoop_any (ForGI C env A s₂.heap (escV x) s₂.gens a L σ s J) (fun n s' z=>z.casesOn fun i σ' hn' hJ H S'=>?_) (escV x).length
  ⟨0,σ₁,rfl,j0,⟨M.gen,M.ready A (hL.le (Nat.le_add_left 3 k)),M.frd,M.aL,M.aa,M.ne,fun b o e=>⟨o,M.grow b o e⟩,M.rel,hr0⟩,Step.ES (S2.transE (C:=C) ⟨fun b o e _=>M.grow b o e,fun b o e=>⟨o,M.grow b o e⟩,fun _ _ _ e=>e,fun _ e=>e,fun _ _ _=> .inl rfl⟩)⟩
 have hle:i≤(escV x).length:=hn'▸Nat.le_add_left _ _
 -- the generator's own step keeps what stood
 have stp: ∀(s₁':Shared),BaseOk C s₁'→Kp C L s₂.heap s' s₁'→Step (XS C env σ) σ σ' s s₁':=fun s₁' B1 hk=>H.stp W.K S' (S2.up M.fL) (fun b o e n=>(S2.there b o e).elim fun o' e'=>nomatch n.symm.trans e') B1 hk
 have hbare:AllBare s₂.gens:=hG▸R2.bare
 clear q S' M R2 S2 hR
 refine wpAny_passesOwn PassesOwn.never (g_next hL.handled (TopOk.limit (C:=C.pin fun _=>True) ⟨W.T0.nolimit,W.T0.statics⟩ H.rel.g) (Nat.lt_of_le_of_lt (Nat.le_trans (Nat.le_add_right _ _) hL.depth) (by decide)) H.gen H.ready ⟨H.rel.keep,H.rel.tab,H.rel.os⟩ H.al (fun item v s₁' hx rv B1 hk fr gr=>?_)
  (fun s₁' hlen B1 hg hk=>wpAny_execs_nil ⟨.next,σ',rfl,(H.relK W.K hE B1 hk).unpin (by rw[hG,hg];exact hbare.push rfl),stp s₁' B1 hk,hend σ' (Nat.le_antisymm hle hlen▸hJ)⟩) W.K hle)
 have H1:=H.item W.K hE B1 hk fr gr
 have St1:=stp s₁' B1 hk
 have q:=hst i item σ' hx hJ
 have lt:=turn_lt hn' (List.getElem?_eq_some_iff.mp hx).1
 have R1:Rel (C.pin fun g=>g=s₁'.gens) env σ' s₁':=H1.rel.pin (p:=fun g=>g=s₁'.gens) rfl
 clear stp hend hJ H hle B1 hk gr hx hst hn'
 refine wpAny_passesOwn PassesOwn.never (H1.gen.elim fun og z=>z.elim fun nm z=>z.elim fun qn z=>letGo_ok (n:="generator") z.1 z.2.1 rfl ?_)
 refine wpAny_passesOwn PassesOwn.never (wpAny_mono ((ht fun g=>g=s₁'.gens).go env A σ' s₁' _ item v hs hE.pin ⟨hL.handled,hL.depth,hL.units⟩ R1 (relV_pin.mpr rv) (hro _ _ _ q)) (fun u s₄ p=>p.casesOn fun σ₄ R4 S4 q=>?_) fun _ _ x=>x)
 have H4:=H1.own W.K rfl R1 R4 (S4.wide fun b x=>x) (q.2.trans H1.ro)
 refine wpAny_passesOwn PassesOwn.never (wpAny_mono ((hb fun g=>g=s₁'.gens).go env A σ₄ s₄ _ hs hE.pin ⟨hL.handled,hL.depth,hL.units⟩ R4 q.1) (fun f s₅ p=>p.casesOn fun g σ₅ rf R5 S5 q=>?_) fun _ _ x=>x)
 have e4:s₄.gens=s₁'.gens:=R4.bare
 have nx:J (i+1) σ₅→ ∃m,m<n∧ForGI C env A s₂.heap (escV x) s₂.gens a L σ s J m s₅:=fun hJ5=>
  ⟨n-1,lt.1,i+1,σ₅,lt.2,hJ5,H4.own W.K rfl (R4.pin (p:=fun g=>g=s₄.gens) rfl) (R5.pin (p:=fun g=>g=s₄.gens) (R5.bare.trans e4.symm)) (S5.wide fun b x=>x) (hJr _ _ hJ5),Step.transS (Step.transS St1 (S4.wide fun b x=>x)) (S5.wide fun b x=>x)⟩
 cases g with
 |next=>cases (show f= .next from rf);exact nx q
 |cont=>cases (show f= .cont from rf);exact nx q
 |brk=>exact q.elim
 |ret x=>exact q.elim
end
end
section
open PySem PySem.Spec PySem.Calls PyProof.Rows PySem.W
section
variable {C:Ctx} {env:Env} {N0:Heap} {s s' s'' s₀ s₁ s₂:Shared} {A:Around} {k:Nat} {sc:Scope} {σ σ' σ₁:St} {L:Addr} {x:Str}
theorem take_snoc {items:List V} {i:Nat} {y:V} (h:items[i]? =some y):items.take (i+1)=items.take i++[y]:=by
 rw[List.take_add_one,h];rfl
structure GColl (C:Ctx) (A:Around) (N0:Heap) (items:List V) (G:Array GenState) (a L S:Addr) (i:Nat) (s:Shared):Prop where
 gen:s.heap.IsGen a G.size
 ready:GReady C A L N0 items i G s
 frd:FrD L s
 al:Alive N0 s
 base:BaseOk C s
 na:a≠L∧a≠S∧S≠L
 ba:C.base.get? a=none∧C.base.get? L=none∧C.base.get? S=none
theorem GColl.nS {items:List V} {G:Array GenState} {a S:Addr} {i:Nat} (H:GColl C A N0 items G a L S i s) {acc:Array Value} {c:Nat} (hS:s.heap.get? S=some {cls:= .type "list",dict:=none,data:= .seq acc c,slots:= #[]}) {b:Addr} (w:Own L N0 s.heap b):b≠S:=fun q=>by
 subst q
 exact w.elim H.na.2.2 fun w=>w.2.elim fun o' z=>z.2.2.elim fun vs d=>two_at hS z.1 fun q=>nomatch (congrArg Obj.data q).trans d
theorem GColl.write (K:CtxOk C) {items:List V} {G:Array GenState} {a S:Addr} {i:Nat} (H:GColl C A N0 items G a L S i s) {acc:Array Value} {c:Nat} (hS:s.heap.get? S=some {cls:= .type "list",dict:=none,data:= .seq acc c,slots:= #[]}) {h':Heap} {tk:Nat} (g: ∀b o,b≠S→s.heap.get? b=some o→h'.get? b=some o) (hS': ∃o,h'.get? S=some o):GColl C A N0 items G a L S i {s with heap:=h',toks:=tk}:=
 ⟨H.gen.imp fun o z=>z.imp fun nm z=>z.imp fun qn z=>⟨g _ _ H.na.2.1 z.1,z.2⟩,H.ready.keep rfl fun b o e w=>g b o (H.nS hS w) e,H.frd.imp fun o z=>z.imp fun es z=>z.imp fun ep z=>⟨g _ _ H.na.2.2.symm z.1,z.2⟩,
  fun b o e=>(H.al b o e).elim fun o' e'=>by
   by_cases q:b=S
   ·exact q▸hS'
   ·exact ⟨o',g b o' q e'⟩,
  H.base.other K (fun b o n e=>g b o n e) H.ba.2.2 (fun o e=>two_at hS e fun q=>q▸fun w=>w.elim fun _ w=>w.elim fun _ w=>w.elim fun _ w=>nomatch w.1),H.na,H.ba⟩
theorem GColl.item (K:CtxOk C) {items:List V} {G:Array GenState} {a S:Addr} {i j:Nat} (H:GColl C A N0 items G a L S i s) (B:BaseOk C s₁) (hk:Kp C L N0 s s₁) (fr:FrD L s₁) (gr:GReady C A L N0 items j G s₁):GColl C A N0 items G a L S j s₁:=
 ⟨gen_kept hk H.gen H.na.1 (not_tab K H.ba.1),gr,fr,alive_kept K B hk fr H.al,B,H.na,H.ba⟩
noncomputable def KpS (C:Ctx) (L:Nat) (N0:Heap) (S:Addr) (s₀ s₁:Shared):Prop:= ∀b o,b≠S→s₀.heap.get? b=some o→ ¬Own L N0 s₀.heap b→b∉C.tabs→s₁.heap.get? b=some o
theorem Kp.tup (K:CtxOk C) (hk:Kp C L N0 s s₁) (fr:FrD L s) (t:C.tabOk s.heap) (a:Addr) (items:Array Value) (x:IsTup s.heap a items):IsTup s₁.heap a items:=IsTup.kept x fun o e=>tup_at x fun o' n e' d=>two_at e e' fun w=>by
 subst w
 exact hk.at a o e (fun q=>fr.elim fun oL z=>z.elim fun es z=>z.elim fun ep z=>data_at e (q▸z.1) d z.2 fun w=>nomatch w) (fun q=>tab_tup K t q x) fun vs d'=>nomatch d.symm.trans d'
theorem KpS.trans {S:Addr} (h:Kp C L N0 s s₁) (g: ∀b o,b≠S→s₁.heap.get? b=some o→s₂.heap.get? b=some o) (k:KpS C L N0 S s₂ s'):KpS C L N0 S s s':=fun b o n e w t=>
 have e2:=g b o n (h b o e w t)
 k b o n e2 (fun w'=>w (w'.imp_right fun w'=>⟨w'.1,w'.2.elim fun o' z=>⟨o,e,two_at e2 z.1 fun q=>q▸z.2⟩⟩)) t
theorem wpAny_E {α:Type} {M:Model} {t:Sem α} {Q:α→Shared→Prop} {E:Value→Shared→Prop} (h:wpAny M A t Q NoE s):wpAny M A t Q E s:=wpAny_mono h (fun _ _ x=>x) fun _ _ x=>x.elim
theorem push_room {i:Nat} {acc:Array Value} {items:List V} (hl:(items.take i).length=acc.toList.length) (hz:items.length≤100000):acc.size≤100000:=by
 rw[←Array.length_toList,←hl]
 exact Nat.le_trans (List.length_take_le' ..) hz
theorem g_extend (W:Wk C) {items:List V} {G:Array GenState} {a S:Addr} {res:Value} {R:Result→Shared→Prop} (hh:A.handled=none) (hroom:A.depth<recursionLimit) (hz:items.length≤100000)
  (m i:Nat) (s:Shared) (acc:Array Value) (c:Nat) (hm:i+m=items.length) (H:GColl C A.in1 N0 items G a L S i s) (hS:s.heap.get? S=some {cls:= .type "list",dict:=none,data:= .seq acc c,slots:= #[]}) (hr:RelVs C s.heap (items.take i) acc.toList)
   (hR: ∀s' acc' c',BaseOk C s'→s'.gens=G.push .finished→KpS C L N0 S s s'→s'.heap.get? S=some {cls:= .type "list",dict:=none,data:= .seq acc' c',slots:= #[]}→RelVs C s'.heap items acc'.toList→R (.ok (.ret res)) s'):
   codeAny (model C.prog C.w) A (.builtin "list.extend.loop" ⟨[.ref S,.ref a,res],[]⟩) R s:=by
 induction m generalizing i s acc c with
 |zero=>
  cases (show i=items.length from hm)
  refine codeAny_builtin F.entry_extend_loop ?_
  rw[Around.under_plainId F.plain_extend_loop _]
  rw[List.take_length] at hr
  exact wpAny_bind (wpAny_E (g_next (L:=L) (N0:=N0) (A:=A.in1) hh (TopOk.limit (σ:=argSt default) (C:=C.pin fun _=>True) ⟨W.T0.nolimit,W.T0.statics⟩ ⟨⟨H.base.keep,H.base.tab,H.base.os⟩,trivial,fun a xs e=>nomatch e⟩) hroom H.gen H.ready H.base H.al
   (fun item v s₁ hx _ _ _ _ _=>nomatch (List.getElem?_eq_none_iff.mpr (Nat.le_refl _)).symm.trans hx) (fun s₁ _ B1 hg hk=>wpAny_pure (hR s₁ acc c B1 hg (fun b o _ e w t=>hk b o e w t) (hk S _ hS (fun w=>H.nS hS w rfl) (not_tab W.K H.ba.2.2)) (RelVs.kept (hk.tup W.K H.frd H.base.tab) hr))) W.K (Nat.le_refl _)))
 |succ m ih=>
  refine codeAny_builtin F.entry_extend_loop ?_
  rw[Around.under_plainId F.plain_extend_loop _]
  refine wpAny_bind (wpAny_E (g_next (L:=L) (N0:=N0) (A:=A.in1) hh (TopOk.limit (σ:=argSt default) (C:=C.pin fun _=>True) ⟨W.T0.nolimit,W.T0.statics⟩ ⟨⟨H.base.keep,H.base.tab,H.base.os⟩,trivial,fun a xs e=>nomatch e⟩) hroom H.gen H.ready H.base H.al (fun item v s₁ hx rv B1 hk fr gr=>?_)
   (fun s₁ hl _ _ _=>absurd hl (Nat.not_le.mpr (hm▸Nat.lt_add_of_pos_right (Nat.succ_pos m)))) W.K (hm▸Nat.le_add_right _ _)))
  have H1:=H.item W.K B1 hk fr gr
  have hS₁:=hk S _ hS (fun w=>H.nS hS w rfl) (not_tab W.K H.ba.2.2)
  have hr₁:=RelVs.kept (hk.tup W.K H.frd H.base.tab) hr
  have hlen:=push_room (i:=i) hr.len hz
  clear H hr hS fr gr B1
  show wpAny _ A.in1 (updateSeq S (·.push v) >>= _) _ _ _
  have hS₂:=Heap.get?_update_self (Obj.mapSeq (·.push v)) hS₁ rfl
  have oth: ∀b o,b≠S→s₁.heap.get? b=some o→(s₁.heap.update S (Obj.mapSeq (·.push v))).get? b=some o:=fun b o hb e=>(Heap.get?_update_other _ _ (Ne.symm hb)).trans e
  have tupS: ∀a items,IsTup s₁.heap a items→IsTup (s₁.heap.update S (Obj.mapSeq (·.push v))) a items:=fun a items x=>IsTup.kept x fun o e=>oth a o (fun q=>tup_ne_list (q▸x) ⟨_,hS₁⟩) e
  exact wpAny_bind (wpAny_updateSeq hS₁ rfl (wpAny_pure ⟨plainId_quiet F.plain_extend_loop _,ih (i+1) {s₁ with heap:=s₁.heap.update S (Obj.mapSeq (·.push v))} (acc.push v) _ ((Nat.succ_add_eq_add_succ i m).trans hm) (H1.write W.K hS₁ oth ⟨_,hS₂⟩ (tk:=s₁.toks)) hS₂ (by
    rw[take_snoc hx,Array.toList_push]
    exact RelVs.append (RelVs.kept tupS hr₁) (RelVs.cons (RelV.kept tupS rv) RelVs.nil)) fun s' acc' c' B' hg' hk' hS' hr'=>hR s' acc' c' B' hg' (KpS.trans hk oth hk') hS' hr'⟩) (Nat.le_trans hlen (by decide)) (by
    show (acc.push v).size≤sizeLine+1
    rw[Array.size_push]
    exact Nat.succ_le_succ (Nat.le_trans hlen (by decide))))
end
end
section
open PySem PySem.Spec PySem.Calls PyProof.Rows PySem.W
section
variable {C:Ctx} {env:Env} {N0:Heap} {s s' s'' s₀ s₁ s₂:Shared} {A:Around} {k:Nat} {sc:Scope} {σ σ' σ₁:St} {L:Addr} {x:Str}
theorem KpS.from {S:Addr} (g: ∀b o,b≠S→s.heap.get? b=some o→s₂.heap.get? b=some o) (k:KpS C L N0 S s₂ s'):KpS C L N0 S s s':=fun b o n e w t=>
 have e2:=g b o n e
 k b o n e2 (fun w'=>w (w'.imp_right fun w'=>⟨w'.1,w'.2.elim fun o' z=>⟨o,e,two_at e2 z.1 fun q=>q▸z.2⟩⟩)) t
theorem room (hL:Lim k A):A.depth<recursionLimit:=Nat.lt_of_le_of_lt (Nat.le_trans (Nat.le_add_right _ _) hL.depth) (by decide)
theorem g_init (W:Wk C) {items:List V} {G:Array GenState} {a S:Addr} {R:Result→Shared→Prop} {c:Nat} (hh:A.handled=none) (hroom:A.depth<recursionLimit) (hz:items.length≤100000) (H:GColl C A.in1 N0 items G a L S 0 s)
  (hS:s.heap.get? S=some {cls:= .type "list",dict:=none,data:= .seq #[] c,slots:= #[]})
  (hR: ∀s' acc' c',BaseOk C s'→s'.gens=G.push .finished→KpS C L N0 S s s'→s'.heap.get? S=some {cls:= .type "list",dict:=none,data:= .seq acc' c',slots:= #[]}→RelVs C s'.heap items acc'.toList→R (.ok (.ret .none)) s'):
  wpAny (model C.prog C.w) A.in1 (Builtin.«list.__init__» ⟨[.ref S,.ref a],[]⟩)
   (fun fin s'=>match fin with| .done f=>R (.ok f) s'| .again c'=>c'.quiet=true∧codeAny (model C.prog C.w) A c' R s') (fun e s'=>R (.error e) s') s:=by
 show wpAny _ A.in1 (Builtin.List.listItems (.ref S) >>= fun old=>Builtin.List.listUpdate (.ref S) (fun _=> #[]) >>= fun _=>letGo old.toList.reverse >>= fun _=>Builtin.List.listExtendWith (.ref S) (.ref a) .none) _ _ s
 refine wpAny_bind ?_
 unfold Builtin.List.listItems
 refine wpAny_bind (wpAny_seqItems hS rfl (wpAny_pure ?_))
 show wpAny _ A.in1 (updateSeq S (fun _=> #[]) >>= fun _=>letGo (#[]:Array Value).toList.reverse >>= fun _=>Builtin.List.listExtendWith (.ref S) (.ref a) .none) _ _ s
 refine wpAny_bind (wpAny_updateSeq hS rfl ?_)
 have oth1: ∀b o,b≠S→s.heap.get? b=some o→(s.heap.update S (Obj.mapSeq (fun _=>(#[]:Array Value)))).get? b=some o:=fun b o hb e=>(Heap.get?_update_other _ _ (Ne.symm hb)).trans e
 have hS₂:=Heap.get?_update_self (Obj.mapSeq (fun _=>(#[]:Array Value))) hS rfl
 have H1:=H.write W.K hS oth1 ⟨_,hS₂⟩ (tk:=s.toks)
 refine wpAny_bind (wpAny_letGo ?_)
 generalize hs1:({s with heap:=s.heap.update S (Obj.mapSeq (fun _=>(#[]:Array Value)))}:Shared)=s1 at H1
 have e1:s1.heap=s.heap.update S (Obj.mapSeq (fun _=>(#[]:Array Value))):=by rw[←hs1]
 rw[←e1] at hS₂ oth1
 have hT:s1.TypeIs (.ref a) "generator" :=H1.gen.typeIs
 unfold Builtin.List.listExtendWith
 refine wpAny_bind (wpAny_typeOf hT ?_)
 have h1:Builtin.List.listSameRef (.ref S) (.ref a)=false:=beq_eq_false_iff_ne.mpr H.na.2.1.symm
 have h2:(Value.type "generator" ==Value.type "list")=false:=by decide
 have h3:(Value.type "generator" ==Value.type "tuple")=false:=by decide
 rw[h1,h2,h3]
 refine wpAny_bind (wpAny_pyIter_gen H1.gen ?_)
 refine wpAny_bind (wpAny_holding ?_)
 unfold Builtin.List.listLengthHint
 refine wpAny_bind (wpAny_specialOf hT F.gen_no_len ?_)
 show wpAny _ A.in1 (specialOf (Value.ref a) (Str.ofString "__length_hint__") >>= _) _ _ _
 refine wpAny_bind (wpAny_specialOf hT F.gen_no_hint ?_)
 refine wpAny_pure ?_
 show wpAny _ A.in1 (rule "list.extend.makes-room" >>= fun _=>Builtin.List.listTouch (.ref S) >>= fun _=>again (.builtin "list.extend.loop" ⟨[.ref S,.ref a,.none],[]⟩)) _ _ _
 refine wpAny_bind (wpAny_rule ?_)
 refine wpAny_bind ?_
 show wpAny _ A.in1 (updateSeq S (·.push .none) >>= fun _=>updateSeq S (·.pop)) _ _ _
 refine wpAny_bind (wpAny_updateSeq hS₂ rfl ?_)
 have hS₃:=Heap.get?_update_self (Obj.mapSeq (·.push Value.none)) hS₂ rfl
 refine wpAny_updateSeq (hz:=by seq_fits) hS₃ rfl ?_
 have hS₄:=Heap.get?_update_self (Obj.mapSeq (·.pop)) hS₃ rfl
 have oth2: ∀b o,b≠S→s1.heap.get? b=some o→((s1.heap.update S (Obj.mapSeq (·.push Value.none))).update S (Obj.mapSeq (·.pop))).get? b=some o:=
  fun b o hb e=>(Heap.get?_update_other _ _ (Ne.symm hb)).trans ((Heap.get?_update_other _ _ (Ne.symm hb)).trans e)
 have H2:=H1.write W.K hS₂ oth2 ⟨_,hS₄⟩ (tk:=s1.toks)
 refine wpAny_pure ⟨plainId_quiet F.plain_extend_loop _,g_extend W hh hroom hz items.length 0 _ #[] _ (Nat.zero_add _) H2 hS₄ (by rw[List.take_zero];exact RelVs.nil) fun s' acc' c' B' hg' hk' hS' hr'=>?_⟩
 exact hR s' acc' c' B' hg' (KpS.from (fun b o n e=>oth2 b o n (oth1 b o n e)) hk') hS' hr'
noncomputable def ptListG (P:PT V):PT V:=fun Q σ=>ptArgs [P] (StrGo fun x σ₁=>(escV x).length≤100000∧ ∀l,σ₁.lists l=none→Q (.lst l) (setL σ₁ l (escV x))) σ
theorem s_listG (W:Wk C) (hG:C.gOk=AllBare) {P:PT V} {e:Expr} {np ipos np' pos:Pos} {j j':Nat} (hn:NameOk sc j (Str.ofString "_iter_escaped_chars") .globalImplicit) (hl:NameOk sc j' (Str.ofString "list") .globalImplicit) (ha:SoundEs C (k+4) sc [P] [e]):
  SoundE C (k+4) sc (ptListG P) (.Call (.Name (Str.ofString "list") np') [.Call (.Name (Str.ofString "_iter_escaped_chars") np) [e] [] ipos] [] pos):= .mk fun env A σ s Q hs hE hL hR q=>by
 refine wpAny_Call_NameR (s_glob_builtin W.gl W.m_list W.b_list (by unfold Env.kindOf;rw[hs];exact hl.look) hE hR (callWith_type1 (spliced_cons (wpAny_mono (e_gen (k:=k+3) W hn ha hs hE hL hR q) (fun v s₁ p=>p.casesOn fun x σ₁ s₂ a L e1 M R2 S2 v2 hr0 q=>spliced_nil ?_) fun _ _ x=>x)) rfl rfl) hl.dbg)
 subst e1
 have hbare:AllBare s₂.gens:=hG▸R2.bare
 have nS:s₁.heap.get? s₁.heap.objs.size=none:=get_size _
 have apS:=M.rel.free W.K.pin nS
 have g1:Grow s₁.heap (s₁.heap.push {cls:= .type "list",data:= .seq #[]}):= .push _
 refine callType_codes (Q₁:=fun obj s'=>obj= .ref s₁.heap.objs.size∧s'={s₁ with heap:=s₁.heap.push {cls:= .type "list",data:= .seq #[]}}) F.called_list (F.typeCall_list_1 _) F.entry_list_init (code_list_new _ ⟨rfl,rfl⟩) fun obj s' h'=>?_
 obtain ⟨rfl,rfl⟩:=h'
 have hS:(s₁.heap.push {cls:= .type "list",data:= .seq #[]}).get? s₁.heap.objs.size=some {cls:= .type "list",data:= .seq #[]}:=Heap.get?_push_size _ rfl
 have RS:=M.rel.grow W.K.pin (tk:=s₁.toks) g1
 have H:GColl C A.in1.in1 s₂.heap (escV x) s₂.gens a L s₁.heap.objs.size 0 {s₁ with heap:=s₁.heap.push {cls:= .type "list",data:= .seq #[]}}:=
  ⟨M.gen.imp fun o z=>z.imp fun nm z=>z.imp fun qn z=>⟨g1 _ _ z.1,z.2⟩,(M.ready A.in1.in1 ⟨hL.handled,Nat.le_trans (Nat.add_le_add_left (Nat.le_add_left 3 _) _) hL.depth,by have:=hL.units;show A.units+1+1+36≤9000;lia⟩).keep (s':={s₁ with heap:=s₁.heap.push {cls:= .type "list",data:= .seq #[]}}) rfl fun b o e _=>g1 b o e,
   M.frd.imp fun o z=>z.imp fun es z=>z.imp fun ep z=>⟨g1 _ _ z.1,z.2⟩,fun b o e=>⟨o,g1 _ _ (M.grow b o e)⟩,⟨RS.keep,RS.tab,RS.os⟩,⟨M.ne,M.gen.elim fun o z=>z.elim fun nm z=>z.elim fun qn z=>ne_at z.1 nS,M.frd.elim fun o z=>z.elim fun es z=>z.elim fun ep z=>(ne_at z.1 nS).symm⟩,⟨M.aa.base,M.aL.base,apS.base⟩⟩
 clear RS
 refine ⟨⟨_,hS,rfl⟩,F.args_list_init_2 _ _,g_init (A:=A.in1) W hL.handled (show A.depth<recursionLimit from room hL) q.1 H hS fun s' acc' c' B' hg' hk' hS' hr'=>⟨rfl,?_⟩⟩
 -- behind
 have hkp:Kp C L s₂.heap s₁ s':=fun b o e w t=>KpS.from (s:=s₁) (s₂:={s₁ with heap:=s₁.heap.push {cls:= .type "list",data:= .seq #[]}}) (fun b o _ e=>g1 b o e) hk' b o (ne_at e nS) e w t
 have R':Rel (C.pin fun _=>True) env σ₁ s':=Rel.apart W.K.pin hE.pin M.rel ⟨B'.keep,B'.tab,B'.os⟩ trivial hkp M.frd ⟨M.aL.lst,M.aL.ro,M.aL.base,M.aL.loc,M.aL.cell⟩ hr0
 have R'':Rel C env σ₁ s':=R'.unpin (by rw[hG,hg'];exact hbare.push rfl)
 clear H hS hk' R' g1
 have kept: ∀b o o',s.heap.get? b=some o→s₂.heap.get? b=some o'→b∉C.tabs→s'.heap.get? b=some o':=fun b o o' e e2 t=>hkp b o' (M.grow b o' e2) (fun w=>w.elim (ne_at e2 M.fL) fun w=>nomatch w.1.symm.trans e2) t
 exact ⟨.lst s₁.heap.objs.size,setL σ₁ s₁.heap.objs.size (escV x),of_lst,⟨R''.base,R''.bare,R''.vars,fun b xs e=>setL_to e (fun q z=>⟨acc',⟨_,q▸hS'⟩,z▸hr',q▸apS.base⟩) fun _ e=>R''.lists b xs e,R''.cells,fun b o e=>by rw[show (setL σ₁ s₁.heap.objs.size (escV x)).ro=σ₁.ro from rfl,hr0] at e;cases e⟩,
  ⟨fun b o e nx=>kept b o o e (S2.kept b o e nx) fun t=>nx (.inr t),fun b o e=>by
   by_cases t:b∈C.tabs
   ·exact (W.K.none _ B'.tab b t).imp fun o'' z=>z.1
   ·exact (S2.there b o e).imp fun o' e2=>kept b o o' e e2 t,
  fun b o e l=>(setL_other ((S2.there b o e).elim fun o' e2=>ne_at (M.grow b o' e2) nS)).trans (S2.dom b o e l),fun b e=>setL_mono (S2.mono b e),S2.rod⟩,v2,q.2 _ apS.lst⟩
end
end
section
theorem ro_pair {i j:Nat} (Q:St→Prop) (x:V) (σ:St) (h:atTup [atName i,atName j] x Q σ):atTup [atName i,atName j] x (fun σ'=>Q σ'∧σ'.ro=σ.ro) σ:=
 h.imp fun l h=>⟨h.1,h.2.1,(bind2 h.2.1).elim fun a z=>z.elim fun b z=>by
  have q:=h.2.2
  subst z
  exact ⟨q,rfl⟩⟩
end
section
open PySem PySem.Spec PySem.Calls PyProof.Rows PySem.W
noncomputable def nd:PySem.Step→Bool
 | .halt (.done _) _=>false
 |_=>true
theorem nd_ite {c:Prop} [Decidable c] {a b:PySem.Step} (ha:nd a=true) (hb:nd b=true):nd (if c then a else b)=true:=by
 by_cases h:c
 ·rw[if_pos h];exact ha
 ·rw[if_neg h];exact hb
theorem nd_step {den:Code→Sem PySem.Fin} {p:Program} {w:World} {s:Shared} {t:Thread} (h:through t=false):nd (step den p w s t)=true:=by
 obtain ⟨heap,gens,drawn,toks,os⟩:=s
 obtain ⟨cur,code,pos,stack⟩:=t
 cases cur with
 |pure fin=>
  cases fin with
  |again c=>rfl
  |done f=>
   cases stack with
   |nil=>cases h
   |cons fr rest=>cases fr<;>rfl
 |raise e=>
  cases stack with
  |nil=>exact nd_ite rfl rfl
  |cons fr rest=>cases fr<;>rfl
 |finish e=>exact nd_ite rfl rfl
 |load a i k=>
  show nd (match heap.get? a with|some o=>_|none=>_)=true
  cases heap.get? a<;>rfl
 |update a i f k=>exact nd_ite rfl rfl
 |choose src n k=>exact nd_ite rfl rfl
 |genState g k=>
  show nd (match gens[g]? with|none=>_|some st=>_)=true
  cases gens[g]?<;>rfl
 |resume g r l k=>
  show nd (match gens[g]? with|none=>_|some (.fresh c)=>_|some (.suspended kk _ c p frames _)=>_|some .running=>_|some .finished=>_)=true
  cases gens[g]? with
  |none=>rfl
  |some st=>
   cases st with
   |fresh c=>
    cases r with
    |send v=>cases v<;>rfl
    |throw e=>rfl
   |_=>rfl
 |yield v g0 l kk=>
  show nd (match splitAtGen stack with|some (frames,(g,k,c,p),rest)=>_|none=>_)=true
  cases splitAtGen stack<;>rfl
 |_=>rfl
theorem done_through {den:Code→Sem PySem.Fin} {p:Program} {w:World} {s s':Shared} {t:Thread} {f:Flow} (h:step den p w s t= .halt (.done f) s'):through t=true:=by
 cases e:through t with
 |true=>rfl
 |false=>
  have n:=nd_step (den:=den) (p:=p) (w:=w) (s:=s) e
  rw[h] at n
  cases n
theorem sched_through {den:Code→Sem PySem.Fin} {p:Program} {w:World} {f:Flow} {n:Nat} {s s':Shared} {t:Thread} (h:runN den p w n s t= .halted (.done f) s') (hc: ∀k s₁ t₁,runN den p w k s t= .running s₁ t₁→t₁.calm=true) (hz:s.asleep):
  ∃m t₁,schedN den p w m (.single s t)= .running (.single s' t₁)∧through t₁=true:=by
 induction n generalizing s t with
 |zero=>cases h
 |succ n ih=>
  have e:=sstep_single den p w s t (hc 0 s t rfl) hz
  unfold runN at h
  cases hs:step den p w s t with
  |go s₂ t₂=>
   rw[hs] at h e
   refine (ih h (fun k s₁ t₁ q=>hc (k+1) s₁ t₁ (by unfold runN;rw[hs];exact q)) (Shared.asleep_of_life (step_life den p w s s₂ t t₂ hs) hz)).elim fun m z=>z.elim fun t₁ z=>?_
   rcases e with e|e
   ·exact ⟨m+1,t₁,by simp only[schedN,e,PySem.Step.lift];exact z.1,z.2⟩
   ·cases e
  |halt o₂ s₂=>
   rw[hs] at h
   cases h
   cases step_halt_same den p w s s' t _ hs
   exact ⟨0,t,rfl,done_through hs⟩
theorem top_through {prog:Program} {w:World} {t:Sem PySem.Fin} {s:Shared} {R:Shared→Prop} (hz:s.asleep)
  (h:wpAny (model prog w) callerA t (fun fin s'=> ∃f,fin= .done f∧R s'∧s'.gens= #[]) (fun _ _=>False) s):
  ∃m t₁ s₁,schedN (denote table) prog w m (.single s ⟨t,.builtin "claim.caller" {},default,[]⟩)= .running (.single s₁ t₁)∧through t₁=true∧s₁.heap.life=s.heap.life∧R s₁∧s₁.gens= #[]:=by
 have h':=wp_of_wpAny_done (R:=fun r s'=>((∃f,r= .ok f)∧R s'∧s'.gens= #[])∧leftWithCleanup s'.gens=false) caller_in
  (wpAny_mono h (fun _ _ ⟨f,e,a,b⟩=>⟨f,e,⟨⟨f,rfl⟩,a,b⟩,by rw[b];kernel_rfl⟩) fun _ _ x=>x.elim) default
 obtain ⟨n,r,s₁,hn,⟨f,rfl⟩,hR,hg⟩:=(wp_iff_halts (M:=model prog w) (R:=fun r s'=>(∃f,r= .ok f)∧R s'∧s'.gens= #[]) ..).mp h'
 obtain ⟨s₂,hr,hf,hc⟩:=runNI_real _ _ _ hn (outcomeOf_ends (.ok f))
 obtain rfl:s₂=s₁:=Shared.eq_of_forget_eq hf hg
 obtain ⟨m,t₁,h1,h2⟩:=sched_through (f:=f) hr hc hz
 exact ⟨m,t₁,s₂,h1,h2,runN_life _ _ _ hr,hR,hg⟩
end
section
open PySem PySem.Spec PySem.Calls PyProof.Rows PySem.W
section
variable {prog:Program} {w:World} {A:Around} {E:Value→Shared→Prop} {s:Shared} {K:Type} [DecidableEq K] {knd:KeyKind prog w K}
theorem pairs_get {es:List DictEntry} {kvs:List (K×Value)} (h:Pairs knd es kvs) {i:Nat} {kv:K×Value} (q:kvs[i]? =some kv): ∃e,es[i]? =some e∧knd.is kv.1 e.key=true∧e.val=kv.2:=by
 induction h generalizing i with
 |nil=>cases q
 |cons a b _ ih=>
  cases i with
  |zero=>cases q;exact ⟨_,rfl,a,b⟩
  |succ i=>exact ih q
theorem new_find {es:Array DictEntry} {kvs:List (K×Value)} (hp:Pairs knd es.toList kvs) {k:K} (hnew:k∉kvs.map (·.1)):(es.findIdx? fun e=>knd.is k e.key)=none:=by
 obtain ⟨l⟩:=es
 rw[List.findIdx?_toArray,hp.findIdx k,List.findIdx?_eq_none_iff]
 exact fun x hx=>decide_eq_false fun e=>hnew (List.mem_map.mpr ⟨x,hx,e⟩)
theorem pairs_size {es:Array DictEntry} {kvs:List (K×Value)} (hp:Pairs knd es.toList kvs):es.size=kvs.length:=Array.length_toList.symm.trans hp.length
theorem new_nodup {kvs:List (K×Value)} {k:K} {v:Value} (hn:(kvs.map (·.1)).Nodup) (hnew:k∉kvs.map (·.1)):((kvs++[(k,v)]).map (·.1)).Nodup:=by
 rw[List.map_append]
 exact List.nodup_append.mpr ⟨hn,List.nodup_cons.mpr ⟨List.not_mem_nil,List.nodup_nil⟩,fun a ha b hb e=>hnew (by rw[←show a=k from e.trans (List.mem_singleton.mp hb)];exact ha)⟩
theorem put_new {d:Addr} {kvs:List (K×Value)} {k:K} {key v:Value} {h:Int} {Q:Unit→Shared→Prop} (hkey:knd.is k key=true) (hh:h=knd.hash k) (hm:s.heap.DictOf knd d kvs) (hnew:k∉kvs.map (·.1)) (hsz:kvs.length≤sizeLine)
  (hQ: ∀h',h'.DictOf knd d (kvs++[(k,v)])→Heap.SameBut d s.heap h'→Q () {s with heap:=h'}):wpAny (model prog w) A (dictPut d h key v) Q E s:=by
 subst hh
 refine hm.elim fun o z=>z.elim fun es z=>z.elim fun ep z=>?_
 obtain ⟨ho,hc,hd,hk,hp,hn⟩:=z
 unfold dictPut
 refine wpAny_bind (wpAny_dictFind_of hkey ho hd hk ?_)
 rw[new_find hp hnew]
 exact wpAny_updateDictKeys (hz:=(pairs_size hp).symm▸hsz) ho hd (hQ _ ⟨_,_,ep+1,Heap.get?_update_self _ ho (Obj.isFreed_of_dict (Obj.data_mapDictKeys hd _)),hc.mapDictKeys _,Obj.data_mapDictKeys hd _,hk.push hkey _,by rw[Array.toList_push];exact hp.append hkey (knd.hash k) v,new_nodup hn hnew⟩ (Heap.SameBut.update ..))
theorem set_new {d:Addr} {kvs:List (K×Value)} {k:K} {key v:Value} {Q:Unit→Shared→Prop} (hkey:knd.is k key=true) (hm:s.heap.DictOf knd d kvs) (hnew:k∉kvs.map (·.1)) (hsz:kvs.length≤sizeLine)
  (hQ: ∀h',h'.DictOf knd d (kvs++[(k,v)])→Heap.SameBut d s.heap h'→Q () {s with heap:=h',toks:=s.toks+1}):wpAny (model prog w) A (dictSet d key v) Q E s:=
 wpAny_dictSet_pairs hkey hm (fun h' a b=>hQ h' ((if_neg fun z=>(List.any_eq_true.mp z).elim fun kv z=>hnew (List.mem_map.mpr ⟨kv,z.1,of_decide_eq_true z.2⟩):stored kvs k v=_)▸a) b) hsz
theorem dict_obj {h:Heap} {d:Addr} {kvs:List (K×Value)} (hm:h.DictOf knd d kvs): ∃o,h.get? d=some o∧o.cls= .type "dict" :=hm.imp fun o z=>z.elim fun es z=>z.elim fun ep z=>⟨z.1,z.2.1.1⟩
theorem sub_dict_self:isSubtype (.type "dict") (.type "dict")=pure true:=by rw[isSubtype_type];kernel_rfl
theorem for_range {M:Model} {A:Around} {E:Value→Shared→Prop} {f:Nat→PUnit→Sem (ForInStep PUnit)} (I:Nat→Shared→Prop) (n:Nat) (step: ∀i s,i<n→I i s→wpAny M A (f i ⟨⟩) (fun r s'=>r= .yield ⟨⟩∧I (i+1) s') E s)
  (m i:Nat) (s:Shared) (h:i+m=n) (hI:I i s):wpAny M A (forIn (List.range' i m) PUnit.unit f) (fun _ s'=>I n s') E s:=by
 induction m generalizing i s with
 |zero=>
  cases h
  rw[List.range'_zero,List.forIn_nil]
  exact wpAny_pure hI
 |succ m ih=>
  rw[List.range'_succ,List.forIn_cons]
  exact wpAny_bind (wpAny_mono (step i s (h▸Nat.lt_add_of_pos_right (Nat.succ_pos m)) hI) (fun r s' z=>z.1▸ih (i+1) s' ((Nat.succ_add_eq_add_succ i m).trans h) z.2) fun _ _ x=>x)
theorem read_entries {a:Addr} {o:Obj} {es:Array DictEntry} {ep:Nat} {Q:Array DictEntry→Shared→Prop} (h:s.heap.get? a=some o) (d:o.data= .dict es ep) (q:Q es s):wpAny (model prog w) A (dictEntries a) Q E s:=by
 unfold dictEntries
 refine wpAny_bind (wpAny_loadPart h ?_)
 rw[d];exact wpAny_pure q
theorem read_epoch {a:Addr} {o:Obj} {es:Array DictEntry} {ep:Nat} {Q:Nat→Shared→Prop} (h:s.heap.get? a=some o) (d:o.data= .dict es ep) (q:Q ep s):wpAny (model prog w) A (dictEpoch a) Q E s:=by
 unfold dictEpoch
 refine wpAny_bind (wpAny_loadPart h ?_)
 rw[d];exact wpAny_pure q
theorem take_new {kvs sub:List (K×Value)} {i:Nat} {kv:K×Value} (hnd:((kvs++sub).map (·.1)).Nodup) (hkv:sub[i]? =some kv):sub.take (i+1)=sub.take i++[kv]∧kv.1∉(kvs++sub.take i).map (·.1):=by
 have htake:sub.take (i+1)=sub.take i++[kv]:=by rw[List.take_add_one,hkv];rfl
 refine ⟨htake,fun m=>?_⟩
 rw[←List.take_append_drop (i+1) sub,htake,List.append_assoc,←List.append_assoc,List.map_append] at hnd
 exact (List.nodup_append.mp hnd).2.2 kv.1 m kv.1 List.mem_cons_self rfl
noncomputable def MergeI (knd:KeyKind prog w K) (d:Addr) (kvs sub:List (K×Value)) (s:Shared) (i:Nat) (s':Shared):Prop:= ∃h',s'={s with heap:=h'}∧h'.DictOf knd d (kvs++sub.take i)∧Heap.SameBut d s.heap h'
theorem merge_new {d a:Addr} {kvs sub:List (K×Value)} {Q:Unit→Shared→Prop} (ha:(a==sysModules)=false) (hda:d≠a) (hd:s.heap.DictOf knd d kvs) (hs:s.heap.DictOf knd a sub) (hne:kvs≠[])
  (hnd:((kvs++sub).map (·.1)).Nodup) (hsz:kvs.length+sub.length≤sizeLine)
  (hQ: ∀h',h'.DictOf knd d (kvs++sub)→Heap.SameBut d s.heap h'→Q () {s with heap:=h'}):wpAny (model prog w) A (mergeMapping d (.ref a) false) Q E s:=by
 have hT:s.TypeIs (.ref a) "dict" :=dict_obj hs
 refine hs.elim fun oa z=>z.elim fun es z=>z.elim fun ep z=>?_
 obtain ⟨hoa,hxa,hda',hka,hpa,hna⟩:=z
 have hlen:=pairs_size hpa
 unfold mergeMapping
 refine wpAny_bind (wpAny_isInstance hT sub_dict_self ?_)
 rw[if_pos rfl]
 refine wpAny_bind (wpAny_specialOf hT F.slot_dict_iter.lookup (wpAny_bind (wpAny_pure ?_)))
 rw[show ((some (Value.builtin "dict.__iter__"):Option Value)==some (Value.builtin "dict.__iter__"))=true by decide]
 dsimp only
 rw[ha]
 refine hd.elim fun od z=>z.elim fun esd z=>z.elim fun epd z=>wpAny_bind (read_entries z.1 z.2.2.1 ?_)
 rw[show esd.isEmpty=false from Array.isEmpty_eq_false_iff.mpr fun q=>hne (List.length_eq_zero_iff.mp ((pairs_size z.2.2.2.2.1).symm.trans (congrArg _ q)))]
 refine wpAny_bind (read_entries hoa hda' (wpAny_bind (read_epoch hoa hda' ?_)))
 rw[List.range_eq_range']
 refine wpAny_bind (wpAny_mono (for_range (MergeI knd d kvs sub s) es.size (fun i s' hi z=>?_) es.size 0 s (Nat.zero_add _) ⟨s.heap,rfl,by rw[List.take_zero,List.append_nil];exact hd,⟨rfl,fun _ _=>rfl⟩⟩) (fun _ s' x=>wpAny_pure (x.elim fun h' x=>x.1▸hQ h' (by
   have y:=x.2.1
   rw[hlen,List.take_length] at y
   exact y) x.2.2)) fun _ _ x=>x)
 refine z.elim fun h' z=>?_
 obtain ⟨rfl,h1,h2⟩:=z
 have hoa':h'.get? a=some oa:=(h2.2 a (Ne.symm hda)).trans hoa
 rw[hlen] at hi
 have hkv:=List.getElem?_eq_getElem hi
 generalize sub[i]=kv at hkv
 have tn:=take_new hnd hkv
 refine (pairs_get hpa hkv).elim fun e y=>?_
 obtain ⟨he,hkey,hval⟩:=y
 rw[Array.getElem?_toList] at he
 refine wpAny_bind (read_entries (s:={s with heap:=h'}) hoa' hda' ?_)
 rw[he]
 refine wpAny_bind (wpAny_holding (put_new (k:=kv.1) hkey ((hka e (Array.mem_of_getElem? he)).elim fun k' y=>knd.inj e.key k' kv.1 y.1 hkey▸y.2) h1 tn.2 ?_ fun h'' h3 h4=>wpAny_bind (read_epoch (s:={s with heap:=h''}) ((h4.2 a (Ne.symm hda)).trans hoa') hda' ?_)))
 ·rw[List.length_append]
  exact Nat.le_trans (Nat.add_le_add_left (List.length_take_le' ..) _) hsz
 ·rw[show (ep != ep)=false from bne_self_eq_false ep]
  exact wpAny_pure ⟨rfl,h'',rfl,by rw[tn.1,←List.append_assoc];rw[hval] at h3;exact h3,⟨h4.1.trans h2.1,fun b n=>(h4.2 b n).trans (h2.2 b n)⟩⟩
end
end
section
open PySem PySem.Spec PySem.Calls PyProof.Rows PySem.W
section
variable {prog:Program} {w:World} {A:Around} {s s₀:Shared}
structure LitP (prog:Program) (w:World) (A:Around) (p:Sem Value×Sem Value) (q:Int×Str):Prop where
 k: ∀(s:Shared) (Q:Value→Shared→Prop),(∀t tk,Q (.int q.1 t) {s with toks:=tk})→wpAny (model prog w) A p.1 Q (fun _ _=>False) s
 v: ∀(s:Shared) (Q:Value→Shared→Prop),(∀t tk,Q (.str q.2 t) {s with toks:=tk})→wpAny (model prog w) A p.2 Q (fun _ _=>False) s
inductive Lits (prog:Program) (w:World) (A:Around):List (Sem Value×Sem Value)→List (Int×Str)→Prop
 |nil:Lits prog w A [] []
 |cons {p:Sem Value×Sem Value} {q:Int×Str} {ps:List (Sem Value×Sem Value)} {l:List (Int×Str)} (a:LitP prog w A p q) (b:Lits prog w A ps l):Lits prog w A (p::ps) (q::l)
theorem Lits.len {ps:List (Sem Value×Sem Value)} {l:List (Int×Str)} (h:Lits prog w A ps l):ps.length=l.length:=by
 induction h with
 |nil=>rfl
 |cons _ _ ih=>exact congrArg Nat.succ ih
theorem Lits.snoc {ps:List (Sem Value×Sem Value)} {l:List (Int×Str)} {p:Sem Value×Sem Value} {q:Int×Str} (h:Lits prog w A ps l) (a:LitP prog w A p q):Lits prog w A (ps++[p]) (l++[q]):=by
 induction h with
 |nil=>exact .cons a .nil
 |cons x _ ih=>exact .cons x ih
inductive Vals:List (Int×Str)→List (Int×Value)→Prop
 |nil:Vals [] []
 |cons {i:Int} {x:Str} {t:Tok} {l:List (Int×Str)} {m:List (Int×Value)} (h:Vals l m):Vals ((i,x)::l) ((i,.str x t)::m)
theorem Vals.keys {l:List (Int×Str)} {m:List (Int×Value)} (h:Vals l m):m.map (·.1)=l.map (·.1):=by
 induction h with
 |nil=>rfl
 |cons _ ih=>exact congrArg _ ih
theorem Vals.append {l l':List (Int×Str)} {m m':List (Int×Value)} (h:Vals l m) (h':Vals l' m'):Vals (l++l') (m++m'):=by
 induction h with
 |nil=>exact h'
 |cons _ ih=>exact .cons ih
theorem Vals.len {l:List (Int×Str)} {m:List (Int×Value)} (h:Vals l m):m.length=l.length:=by
 have e:=congrArg List.length h.keys
 rwa [List.length_map,List.length_map] at e
noncomputable def Up (s s':Shared):Prop:= ∃h' tk,s'={s with heap:=h',toks:=tk}∧(∀b o,s.heap.get? b=some o→h'.get? b=some o)∧s.heap.objs.size≤h'.objs.size
theorem isInt_self {i:Int} {t:Tok}:(PySem.intKind prog w).is i (.int i t)=true:=by simp[PySem.intKind,Value.isInt]
theorem not_left {K:Type} {l r:List K} {i:K} (nd:(l++i::r).Nodup):i∉l:=fun m=>(List.nodup_append.mp nd).2.2 i m i List.mem_cons_self rfl
theorem eval_pairs {ps:List (Sem Value×Sem Value)} {l:List (Int×Str)} (h:Lits prog w A ps l): ∀{s:Shared} {Q:List (Value×Value)→Shared→Prop},
  (∀vs kvs tk,Carries (PySem.intKind prog w) vs kvs→Vals l kvs→Q vs {s with toks:=tk})→wpAny (model prog w) A (evalPairs ps) Q (fun _ _=>False) s:=by
 induction h with
 |nil=>intro s Q q;exact evalPairs_nil (q [] [] s.toks trivial .nil)
 | @cons p r ps l a b ih=>
  intro s Q q
  refine evalPairs_cons (a.k _ _ fun t tk=>a.v _ _ fun t' tk'=>ih fun vs kvs tk'' c iv=>?_)
  obtain ⟨i,x⟩:=r
  exact q _ ((i,.str x t')::kvs) tk'' ⟨isInt_self,rfl,c⟩ (.cons iv)
theorem long_loop {d:Addr} {f:Sem Value×Sem Value→PUnit→Sem (ForInStep PUnit)} (hf: ∀p u,f p u=(do let kv ←p.1;let vv ←holding [kv] p.2;holding [kv,vv] (dictSet d kv vv);pure (.yield PUnit.unit))) {ps:List (Sem Value×Sem Value)} {l:List (Int×Str)} (h:Lits prog w A ps l):
  ∀{s:Shared} {l₀:List (Int×Str)} {kvs:List (Int×Value)} {Q:PUnit→Shared→Prop},s.heap.DictOf (PySem.intKind prog w) d kvs→Vals l₀ kvs→((l₀++l).map (·.1)).Nodup→l₀.length+l.length≤sizeLine→
   (∀h' tk kvs',h'.DictOf (PySem.intKind prog w) d kvs'→Vals (l₀++l) kvs'→Heap.SameBut d s.heap h'→Q PUnit.unit {s with heap:=h',toks:=tk})→wpAny (model prog w) A (forIn ps PUnit.unit f) Q (fun _ _=>False) s:=by
 induction h with
 |nil=>
  intro s l₀ kvs Q hd hv _ _ q
  rw[List.forIn_nil]
  exact wpAny_pure (q s.heap s.toks kvs hd (by rw[List.append_nil];exact hv) ⟨rfl,fun _ _=>rfl⟩)
 | @cons p r ps l a b ih=>
  intro s l₀ kvs Q hd hv nd hz q
  obtain ⟨i,x⟩:=r
  rw[List.forIn_cons,hf]
  refine wpAny_bind (wpAny_bind (a.k _ _ fun t tk=>wpAny_bind (wpAny_holding (a.v _ _ fun t' tk'=>wpAny_bind (wpAny_holding (set_new (k:=i) (knd:=PySem.intKind prog w) (s:={s with toks:=tk'}) isInt_self hd ?_ ?_ fun h' h1 h2=>wpAny_pure ?_))))))
  ·rw[hv.keys]
   rw[List.map_append] at nd
   exact not_left nd
  ·rw[hv.len];exact Nat.le_of_add_right_le hz
  ·refine ih h1 (l₀:=l₀++[(i,x)]) (hv.append (.cons .nil)) (by rw[List.append_assoc];exact nd) (by rw[List.length_append];exact Nat.le_trans (Nat.le_of_eq (Nat.succ_add_eq_add_succ _ _)) hz) fun h'' tk'' kvs' g1 g2 g3=>?_
   rw[List.append_assoc] at g2
   exact q h'' tk'' kvs' g1 g2 ⟨g3.1.trans h2.1,fun b n=>(g3.2 b n).trans (h2.2 b n)⟩
theorem up_of {h':Heap} {tk:Nat} (hs:Heap.SameBut s.heap.objs.size (s.heap.push {cls:= .type "dict",data:= .dict #[]}) h'):Up s {s with heap:=h',toks:=tk}:=
 ⟨h',tk,rfl,fun b o e=>(hs.2 b (ne_at e (get_size _))).trans (Heap.get?_push_of_some _ e),hs.1▸(Heap.size_push ..).symm▸Nat.le_succ _⟩
theorem sub_dict {ps:List (Sem Value×Sem Value)} {l:List (Int×Str)} (h:Lits prog w A ps l) (nd:(l.map (·.1)).Nodup) (hz:l.length≤17) {Q:Addr→Shared→Prop}
  (q: ∀s' kvs,Up s s'→s'.heap.DictOf (PySem.intKind prog w) s.heap.objs.size kvs→Vals l kvs→Q s.heap.objs.size s'):wpAny (model prog w) A (subDict ps) Q (fun _ _=>False) s:=by
 by_cases c:ps.length≤15
 ·refine wpAny_subDict (knd:=PySem.intKind prog w) c (eval_pairs h fun vs kvs tk c iv=>⟨kvs,c,Heap.DictOf.new _,fun h' hd hs=>?_⟩)
  rw[merged_nodup (by rw[iv.keys];exact nd)] at hd
  exact q _ kvs (up_of hs) hd iv
 ·unfold subDict
  refine wpAny_bind (wpAny_alloc (wpAny_bind (wpAny_holding ?_)))
  rw[if_neg c]
  exact wpAny_bind (wpAny_rule (wpAny_bind (long_loop (d:=s.heap.objs.size) (fun p u=>rfl) h (s:={s with heap:=s.heap.push {cls:= .type "dict",data:= .dict #[]}}) (l₀:=[]) (Heap.DictOf.new _) .nil nd (by rw[List.length_nil,Nat.zero_add];exact Nat.le_trans hz (by decide)) fun h' tk kvs' h1 h2 h3=>
   wpAny_pure (wpAny_pure (q _ kvs' (up_of h3) h1 h2)))))
end
end
section
open PySem PySem.Spec PySem.Calls PyProof.Rows PySem.W
section
variable {prog:Program} {w:World} {A:Around} {s s₀:Shared}
inductive DM (prog:Program) (w:World) (N:Nat):List (Int×Str)→Option Addr→Shared→Prop
 |none {s:Shared}:DM prog w N [] none s
 |some {l:List (Int×Str)} {d:Addr} {kvs:List (Int×Value)} {s:Shared} (h0:l≠[]) (hd:s.heap.DictOf (PySem.intKind prog w) d kvs) (hv:Vals l kvs) (hN:N≤d):DM prog w N l (some d) s
theorem DM_out {N:Nat} {l:List (Int×Str)} {m:Option Addr} {s:Shared} (x:DM prog w N l m s) (h:m≠none): ∃d kvs,m=some d∧s.heap.DictOf (PySem.intKind prog w) d kvs∧Vals l kvs∧N≤d:=by
 cases x with
 |none=>exact (h rfl).elim
 |some h0 hd hv hN=>exact ⟨_,_,rfl,hd,hv,hN⟩
theorem size_lt_of {h:Heap} {a:Addr} {kvs:List (Int×Value)} (x:h.DictOf (PySem.intKind prog w) a kvs):a<h.objs.size:=x.elim fun o z=>z.elim fun es z=>z.elim fun ep z=>Heap.lt_size z.1
theorem dict_kept {h h':Heap} {a:Addr} {kvs:List (Int×Value)} (x:h.DictOf (PySem.intKind prog w) a kvs) (k: ∀b o,h.get? b=some o→h'.get? b=some o):h'.DictOf (PySem.intKind prog w) a kvs:=x.imp fun o z=>z.imp fun es z=>z.imp fun ep z=>z.imp_left (k _ _)
inductive UpN (N:Nat) (s s':Shared):Prop
 |mk (h':Heap) (tk:Nat) (e:s'={s with heap:=h',toks:=tk}) (k: ∀b o,b<N→s.heap.get? b=some o→h'.get? b=some o) (z:s.heap.objs.size≤h'.objs.size):UpN N s s'
theorem UpN.trans {N:Nat} {s s' s'':Shared} (a:UpN N s s') (b:UpN N s' s''):UpN N s s'':=a.casesOn fun h1 t1 e1 k1 z1=>b.casesOn fun h2 t2 e2 k2 z2=>by
 subst e1
 exact ⟨h2,t2,e2,fun b o n e=>k2 b o n (k1 b o n e),Nat.le_trans z1 z2⟩
theorem UpN.up {s s':Shared} (a:UpN s.heap.objs.size s s'):Up s s':=a.casesOn fun h t e k z=>⟨h,t,e,fun b o e=>k b o (Heap.lt_size e) e,z⟩
theorem UpN.size {N:Nat} {s s':Shared} (a:UpN N s s'):s.heap.objs.size≤s'.heap.objs.size:=a.casesOn fun h t e k z=>by
 subst e
 exact z
noncomputable def flushD (run:List (Sem Value×Sem Value)) (main:Option Addr):Sem (Option Addr):=do
 if run.isEmpty then return main
 match main with
 |none=>return some (←subDict run)
 |some d=>
  let sub ←holding [.ref d] (subDict run)
  (holding [.ref d,.ref sub] (mergeMapping d (.ref sub) false)).onRaise fun x=>do let _ ←holding [.ref d,x] (runValue (.builtin "proto.let_go" {}))
  return some d
theorem flush_run {N:Nat} {run:List (Sem Value×Sem Value)} {l r:List (Int×Str)} {main:Option Addr} {Q:Option Addr→Shared→Prop} (hs:sysModules<N) (hN:N≤s.heap.objs.size) (x:DM prog w N l main s) (hr:Lits prog w A run r) (h0:r≠[]) (hz:r.length≤17)
  (nd:((l++r).map (·.1)).Nodup) (hlen:l.length+r.length≤sizeLine)
  (q: ∀m' s',DM prog w N (l++r) m' s'→m'≠none→UpN N s s'→Q m' s'):wpAny (model prog w) A (flushD run main) Q (fun _ _=>False) s:=by
 have hne:run.isEmpty=false:=by
  cases hr with
  |nil=>exact (h0 rfl).elim
  |cons _ _=>rfl
 have ndr:(r.map (·.1)).Nodup:=by rw[List.map_append] at nd;exact (List.nodup_append.mp nd).2.1
 unfold flushD
 rw[hne,if_neg Bool.false_ne_true]
 cases x with
 |none=>exact wpAny_bind (sub_dict hr ndr hz fun s' kvs u hd hv=>wpAny_pure (q _ _ (.some h0 hd hv hN) nofun (u.elim fun h' u=>u.elim fun tk u=>⟨h',tk,u.1,fun b o _ e=>u.2.1 b o e,u.2.2⟩)))
 | @some _ d kvs _ h0l hd hv hNd=>
  refine wpAny_bind (wpAny_holding (sub_dict hr ndr hz fun s' kvs' u hd' hv'=>u.elim fun h' u=>u.elim fun tk u=>?_))
  obtain ⟨rfl,k,z⟩:=u
  exact wpAny_bind (wpAny_onRaise (wpAny_mono (E:=fun _ _=>False) (wpAny_holding (merge_new (Q:=fun _ s''=> ∃h'',s''={s with heap:=h'',toks:=tk}∧h''.DictOf (PySem.intKind prog w) d (kvs++kvs')∧Heap.SameBut d h' h'') (beq_eq_false_iff_ne.mpr (Nat.ne_of_gt (Nat.lt_of_lt_of_le hs hN))) (Nat.ne_of_lt (size_lt_of hd)) (dict_kept hd k) hd'
   (fun e=>h0l (List.length_eq_zero_iff.mp (hv.len.symm.trans (congrArg _ e)))) (by rw[List.map_append,hv.keys,hv'.keys,←List.map_append];exact nd) (by rw[hv.len,hv'.len];exact hlen) fun h'' h1 h2=>⟨h'',rfl,h1,h2⟩)) (fun _ s'' y=>y.elim fun h'' y=>by
    obtain ⟨rfl,h1,h2⟩:=y
    exact wpAny_pure (q _ _ (.some (fun e=>h0 (List.append_eq_nil_iff.mp e).2) h1 (hv.append hv') hNd) nofun ⟨h'',tk,rfl,fun b o hb e=>(h2.2 b (Nat.ne_of_lt (Nat.lt_of_lt_of_le hb hNd))).trans (k b o e),h2.1.symm▸z⟩)) fun _ _ x=>x.elim))
theorem display_loop {N:Nat} {f:(Option (Sem Value)×Sem Value)→(Option Addr×List (Sem Value×Sem Value))→Sem (ForInStep (Option Addr×List (Sem Value×Sem Value)))}
  (h1: ∀(p:Sem Value×Sem Value) (main:Option Addr) (run:List (Sem Value×Sem Value)),run.length+1≠17→f (some p.1,p.2) (main,run)=pure (.yield (main,run++[p])))
  (h2: ∀(p:Sem Value×Sem Value) (main:Option Addr) (run:List (Sem Value×Sem Value)),run.length+1=17→f (some p.1,p.2) (main,run)=(do let m ←flushD (run++[p]) main;pure (.yield (m,[]))))
  {ps:List (Sem Value×Sem Value)} {l:List (Int×Str)} (h:Lits prog w A ps l) (hs:sysModules<N)
  {s:Shared} {main:Option Addr} {run:List (Sem Value×Sem Value)} {l₀ r all:List (Int×Str)} {Q:(Option Addr×List (Sem Value×Sem Value))→Shared→Prop} (hN:N≤s.heap.objs.size) (x:DM prog w N l₀ main s) (hr:Lits prog w A run r) (hz:r.length<17) (e:l₀++(r++l)=all) (nd:(all.map (·.1)).Nodup) (hlen:all.length≤sizeLine)
   (q: ∀main' run' l' r' s',DM prog w N l' main' s'→Lits prog w A run' r'→r'.length<17→l'++r'=all→UpN N s s'→Q (main',run') s'):
   wpAny (model prog w) A (forIn (ps.map fun p=>(some p.1,p.2)) (main,run) f) Q (fun _ _=>False) s:=by
 induction h generalizing s main run l₀ r with
 |nil=>
  rw[List.append_nil] at e
  rw[List.map_nil,List.forIn_nil]
  exact wpAny_pure (q main run l₀ r s x hr hz e ⟨s.heap,s.toks,rfl,fun _ _ _ e=>e,Nat.le_refl _⟩)
 | @cons p i ps l a b ih=>
  rw[List.map_cons,List.forIn_cons]
  have hrl:=hr.len
  have e':l₀++(r++[i])++l=all:=by rw[List.append_assoc,List.append_assoc];exact e
  have rl:(r++[i]).length=r.length+1:=List.length_append
  by_cases c:run.length+1=17
  ·rw[h2 p main run c]
   refine wpAny_bind (wpAny_bind (flush_run hs hN x (hr.snoc a) (fun z=>nomatch (List.append_eq_nil_iff.mp z).2) (Nat.le_of_eq (rl.trans (hrl▸c))) ?_ ?_ fun m' s' x' hm' u=>wpAny_pure (ih (l₀:=l₀++(r++[i])) (r:=[]) (Nat.le_trans hN u.size) x' .nil (by decide) e' fun main' run' l' r' s' y hr' hz' e u'=>q main' run' l' r' s' y hr' hz' e (u.trans u'))))
   ·rw[←e',List.map_append] at nd
    exact (List.nodup_append.mp nd).1
   ·rw[←List.length_append]
    exact Nat.le_trans (Nat.le_add_right _ l.length) (by rw[←List.length_append,e'];exact hlen)
  ·rw[h1 p main run c]
   exact wpAny_bind (wpAny_pure (ih (l₀:=l₀) (r:=r++[i]) hN x (hr.snoc a) (rl▸Nat.lt_of_le_of_ne hz (hrl▸c)) ((List.append_assoc ..).symm.trans e') q))
theorem dict_display {ps:List (Sem Value×Sem Value)} {l:List (Int×Str)} (h:Lits prog w A ps l) (h0:l≠[]) (nd:(l.map (·.1)).Nodup) (hz:l.length≤sizeLine) (hs:sysModules<s.heap.objs.size) {Q:Value→Shared→Prop}
  (q: ∀d kvs s',Up s s'→s.heap.objs.size≤d→s'.heap.DictOf (PySem.intKind prog w) d kvs→Vals l kvs→Q (.ref d) s'):wpAny (model prog w) A (dictDisplay (ps.map fun p=>(some p.1,p.2))) Q (fun _ _=>False) s:=by
 unfold dictDisplay
 dsimp only
 have rl: ∀(run:List (Sem Value×Sem Value)) p,(run++[p]).length=run.length+1:=fun run p=>List.length_append
 refine wpAny_bind (display_loop (N:=s.heap.objs.size) (fun p main run c=>?_) (fun p main run c=>?_) h hs (Nat.le_refl _) .none .nil (by decide) rfl nd hz fun main' run' l' r' s' x hr hz' e u=>?_)
 ·dsimp only
  rw[show ((run++[(p.1,p.2)]).length==17)=false from beq_eq_false_iff_ne.mpr (rl run _▸c),if_neg Bool.false_ne_true]
 ·dsimp only
  rw[show ((run++[(p.1,p.2)]).length==17)=true from beq_iff_eq.mpr ((rl run _).trans c),if_pos rfl]
  rfl
 ·have e:l'++r'=l:=e
  subst e
  show wpAny _ A (flushD run' main' >>= fun m=>match m with|some d=>pure (.ref d)|none=>newDict) _ _ _
  cases hr with
  |nil=>
   rw[List.append_nil] at h0 q
   cases x with
   |none=>exact (h0 rfl).elim
   |some h0l hd hv hNd=>exact wpAny_bind (wpAny_pure (wpAny_pure (q _ _ _ u.up hNd hd hv)))
  |cons a b=>
   refine wpAny_bind (flush_run hs u.size x (.cons a b) nofun (Nat.le_of_lt hz') nd (by rw[←List.length_append];exact hz) fun m' s'' x' hm' u'=>?_)
   exact (DM_out x' hm').elim fun d z=>z.elim fun kvs z=>z.1▸wpAny_pure (q _ _ _ (u.trans u').up z.2.2.2 z.2.1 z.2.2.1)
end
end
section
open PySem PySem.Spec PySem.Calls PyProof.Rows PySem.W
noncomputable def cOf:Expr→Option Const
 | .Constant c _ _=>some c
 |_=>none
noncomputable def cI:Const→Option Int
 | .int i=>some i
 |_=>none
noncomputable def cS:Const→Option Str
 | .str x=>some x
 |_=>none
theorem none_ne {α:Type} {a:α} {P:Prop} (h:none=some a):P:=nomatch h
theorem c_of {e:Expr} {c:Const} (h:cOf e=some c): ∃k p,e= .Constant c k p:=by
 cases e with
 |Constant c' k p=>exact ⟨k,p,congrArg (fun c=>Expr.Constant c k p) (Option.some.inj h)⟩
 |_=>exact none_ne h
theorem i_of {c:Const} {i:Int} (h:cI c=some i):c= .int i:=by
 cases c with
 |int j=>exact congrArg Const.int (Option.some.inj h)
 |_=>exact none_ne h
theorem s_of {c:Const} {i:Str} (h:cS c=some i):c= .str i:=by
 cases c with
 |str j=>exact congrArg Const.str (Option.some.inj h)
 |_=>exact none_ne h
theorem bind_to {α β:Type} {o:Option α} {f:α→Option β} {b:β} (h:o.bind f=some b): ∃a,o=some a∧f a=some b:=Option.bind_eq_some_iff.mp h
theorem cI_of {e:Expr} {i:Int} (h:(cOf e).bind cI=some i): ∃k p,e= .Constant (.int i) k p:=(bind_to h).elim fun c z=>i_of z.2▸c_of z.1
theorem cS_of {e:Expr} {x:Str} (h:(cOf e).bind cS=some x): ∃k p,e= .Constant (.str x) k p:=(bind_to h).elim fun c z=>s_of z.2▸c_of z.1
noncomputable def litIS:List (Option Expr)→List Expr→Option (List (Int×Str))
 |[],[]=>some []
 |k::ks,v::vs=>(k.bind fun k=>(cOf k).bind cI).bind fun i=>((cOf v).bind cS).bind fun x=>(litIS ks vs).map fun l=>(i,x)::l
 |_,_=>none
noncomputable def litI:List Expr→Option (List Int)
 |[]=>some []
 |e::es=>((cOf e).bind cI).bind fun i=>(litI es).map fun l=>i::l
theorem map_to {α β:Type} {o:Option α} {f:α→β} {b:β} (h:o.map f=some b): ∃a,o=some a∧f a=b:=Option.map_eq_some_iff.mp h
section
variable {prog:Program} {w:World} {A:Around} {s:Shared} {env:Env}
theorem lits_of {pos:Pos} {keys:List (Option Expr)} {values:List Expr} {l:List (Int×Str)} (h:litIS keys values=some l):Lits prog w A (pairTrees keys values env pos) l∧keys.all (·.isSome)=true∧keys.length=values.length:=by
 induction keys generalizing values l with
 |nil=>
  cases values with
  |nil=>cases h;exact ⟨.nil,rfl,rfl⟩
  |cons v vs=>cases h
 |cons k ks ih=>
  cases values with
  |nil=>cases h
  |cons v vs=>
   exact (bind_to h).elim fun i h=>(bind_to h.1).elim fun k' hk=>(bind_to h.2).elim fun x h=>(map_to h.2).elim fun r hr=>(cI_of hk.2).elim fun k1 z=>z.elim fun p1 z=>(cS_of h.1).elim fun k2 y=>y.elim fun p2 y=>by
    cases hk.1
    cases z
    cases y
    cases hr.2
    have go:=ih hr.1
    exact ⟨.cons ⟨fun s Q q=>wpAny_Constant_int (env:=env) (k:=k1) (pos:=p1) (q _ _),fun s Q q=>wpAny_bind (Constant_str (env:=env) (wpAny_bind (wpAny_standAt (wpAny_pure (q _ _)))))⟩ go.1,go.2.1,congrArg Nat.succ go.2.2⟩
theorem dict_lits {keys:List (Option Expr)} {values:List Expr} {pos:Pos} {l:List (Int×Str)} (h:litIS keys values=some l) (h0:l≠[]) (nd:(l.map (·.1)).Nodup) (hz:l.length≤sizeLine) (hs:sysModules<s.heap.objs.size) {Q:Value→Shared→Prop}
  (q: ∀d kvs s',Up s s'→s.heap.objs.size≤d→s'.heap.DictOf (PySem.intKind prog w) d kvs→Vals l kvs→Q (.ref d) s'):wpAny (model prog w) A (eval (.Dict keys values pos) env) Q (fun _ _=>False) s:=by
 have L:=lits_of (prog:=prog) (w:=w) (A:=A) (env:=env) (pos:=pos) h
 rw[arm_eval_Dict,zip_pairTrees keys values env pos L.2.1 L.2.2]
 exact wpAny_bind (wpAny_standAt (dict_display L.1 h0 nd hz hs q))
theorem consts_run {pos:Pos} {es:List Expr} {ns:List Int} (h:litI es=some ns) {s:Shared} {Q:List Value→Shared→Prop} (q: ∀vs tk,IntsAre vs ns→Q vs {s with toks:=tk}):wpAny (model prog w) A (spliced (backTo pos (starEach es env))) Q (fun _ _=>False) s:=by
 induction es generalizing ns s Q with
 |nil=>cases h;exact spliced_nil (q [] s.toks .nil)
 |cons e es ih=>
  exact (bind_to h).elim fun i h=>(map_to h.2).elim fun r hr=>(cI_of h.1).elim fun k z=>z.elim fun p z=>by
   cases z
   cases hr.2
   exact spliced_cons (rest:=backTo pos (starEach es env)) (wpAny_Constant_int (env:=env) (k:=k) (pos:=p) (ih hr.1 fun vs tk hv=>q _ _ (.cons i _ hv)))
theorem ints_len {vs:List Value} {ns:List Int} (h:IntsAre vs ns):vs.length=ns.length:=by
 induction h with
 |nil=>rfl
 |cons _ _ _ ih=>exact congrArg Nat.succ ih
theorem ints_append {vs ws:List Value} {ns ms:List Int} (h:IntsAre vs ns) (h':IntsAre ws ms):IntsAre (vs++ws) (ns++ms):=by
 induction h with
 |nil=>exact h'
 |cons n t _ ih=>exact .cons n t ih
theorem ints_of {a:Int} {acc:List Value} {n:Nat} (k:Nat) (h:acc.length=n) (f: ∀(i:Nat) v,acc[i]? =some v→ ∃t,v= .int (a+(k+i:Nat)*1) t):IntsAre acc ((List.range n).map fun (i:Nat)=>a+((k+i:Nat):Int)):=by
 subst h
 induction acc generalizing k with
 |nil=>exact .nil
 |cons v acc ih=>
  rw[List.length_cons,List.range_succ_eq_map,List.map_cons,List.map_map]
  refine (f 0 v rfl).elim fun t e=>?_
  rw[e,Int.mul_one]
  refine .cons _ t ?_
  rw[show ((fun (i:Nat)=>a+((k+i:Nat):Int))∘Nat.succ)=fun (i:Nat)=>a+((k+1+i:Nat):Int) from funext fun i=>congrArg (fun j:Nat=>a+(j:Int)) (Nat.succ_add_eq_add_succ k i).symm]
  exact ih (k+1) fun i v e=>(f (i+1) v e).imp fun t ht=>by rw[ht,Nat.succ_add_eq_add_succ k i]
noncomputable def setIn (ns:List Int):Int→Bool:=fun k'=>(firstMet (fun i=>ns.getD i 0) ns.length).any (· ==k')
theorem set_eval {es:List Expr} {ns:List Int} {a b:Int} {n:Nat} {p1 p2 p3 p4 p5 p6 p7 p8 pa pb:Pos} {ka kb:Nat} {mg mb:Str→Option Value} (hh:A.handled=none) (hk:env.scope.kind= .module) (hl:env.locals=env.globals)
  (hg:s.heap.Ns env.globals mg) (hb:s.heap.Ns env.builtins mb) (m1:mg (Str.ofString "set")=none) (m2:mg (Str.ofString "list")=none) (m3:mg (Str.ofString "range")=none) (b1:mb (Str.ofString "set")=some (.type "set")) (b2:mb (Str.ofString "list")=some (.type "list")) (b3:mb (Str.ofString "range")=some (.type "range"))
  (he:litI es=some ns) (hsm:Builtin.Range.small a b 1=true) (hn:Builtin.Range.rangeSize a b 1=n) (hn2:n≤1000) (hz:ns.length≤1000) {Q:Value→Shared→Prop}
  (q: ∀d m s',Up s s'→s.heap.objs.size≤d→s'.heap.SetOf (PySem.intKind prog w) d (setIn (ns++(List.range n).map fun (i:Nat)=>a+((0+i:Nat):Int))) m→Q (.ref d) s'):
  wpAny (model prog w) A (eval (.Call (.Name (Str.ofString "set") p1) [.BinOp (.List es p2) .Add (.Call (.Name (Str.ofString "list") p3) [.Call (.Name (Str.ofString "range") p4) [.Constant (.int a) ka pa,.Constant (.int b) kb pb] [] p5] [] p6) p7] [] p8) env) Q (fun _ _=>False) s:=by
 refine wpAny_Call_NameR (Name_module hk hl (loadGlobal_builtin hg m1 hb b1 ?_) (by decide))
 refine callWith_type1 (spliced_cons (wpAny_BinOp (List_ (consts_run he fun vs tk hv=>?_)))) rfl rfl
 have hvl:vs.length≤1000:=ints_len hv▸hz
 refine wpAny_newList ?_ (Nat.le_trans hvl (by decide))
 have g1: ∀b o,s.heap.get? b=some o→(s.heap.push {cls:= .type "list",data:= .seq vs.toArray}).get? b=some o:=fun b o e=>Heap.get?_push_of_some _ e
 have z1:(s.heap.push {cls:= .type "list",data:= .seq vs.toArray}).objs.size=s.heap.objs.size+1:=Heap.size_push ..
 have l1:(s.heap.push {cls:= .type "list",data:= .seq vs.toArray}).get? s.heap.objs.size=some {cls:= .type "list",dict:=none,data:= .seq vs.toArray 0,slots:= #[]}:=Heap.get?_push_size _ rfl
 generalize s.heap.push {cls:= .type "list",data:= .seq vs.toArray}=h₁ at g1 z1 l1⊢
 refine wpAny_Call_NameR (Name_module hk hl (loadGlobal_builtin (hg.keeps g1) m2 (hb.keeps g1) b2 ?_) (by decide))
 refine callWith_type1 (spliced_cons (wpAny_Call_NameR (Name_module hk hl (loadGlobal_builtin (hg.keeps g1) m3 (hb.keeps g1) b3 ?_) (by decide)))) rfl rfl
 clear hg hb m1 m2 m3 b1 b2 b3 he
 refine callWith_type1 (spliced_cons (wpAny_Constant_int (env:=env) (k:=ka) (pos:=pa) (spliced_cons (wpAny_Constant_int (env:=env) (k:=kb) (pos:=pb) (spliced_nil (call_range_2 (spliced_nil ?_))))))) rfl rfl
 refine call_list_range hh (IsRange.new _ _ _ _ _ _ _) hsm hn (Nat.le_trans hn2 (by decide)) fun h₂ tk₂ acc c₂ g2 l2 hi=>?_
 have g2': ∀b o,h₁.get? b=some o→h₂.get? b=some o:=fun b o e=>g2 b o (Heap.get?_push_of_some _ e)
 have y1:s.heap.objs.size<h₂.objs.size:=Heap.lt_size (g2' _ _ l1)
 have hsum:(vs.toArray++acc).size=(ns++(List.range n).map fun (i:Nat)=>a+((0+i:Nat):Int)).length:=by rw[Array.size_append,List.size_toArray,hi.1,List.length_append,List.length_map,List.length_range,ints_len hv]
 have hle:(vs.toArray++acc).size≤2000:=by rw[Array.size_append,List.size_toArray,hi.1];exact Nat.add_le_add hvl hn2
 refine P.add_list (g2' _ _ l1) l2 (spliced_nil ?_) (Nat.le_trans (by rw[←Array.size_append];exact hle) (by decide))
 have g3: ∀b o,s.heap.get? b=some o→(h₂.push {cls:= .type "list",data:= .seq (vs.toArray++acc)}).get? b=some o:=fun b o e=>Heap.get?_push_of_some _ (g2' b o (g1 b o e))
 have l3:(h₂.push {cls:= .type "list",data:= .seq (vs.toArray++acc)}).IsList h₂.objs.size (vs.toArray++acc):=⟨_,Heap.get?_push_size _ rfl,rfl,0,rfl⟩
 have y3:s.heap.objs.size<(h₂.push {cls:= .type "list",data:= .seq (vs.toArray++acc)}).objs.size:=Nat.lt_trans y1 (by rw[Heap.size_push];exact Nat.lt_succ_self _)
 generalize h₂.push {cls:= .type "list",data:= .seq (vs.toArray++acc)}=h₃ at g3 l3 y3⊢
 clear g2 l2 g2' l1 g1 z1 y1
 have hints:IntsAre (vs.toArray++acc).toList (ns++(List.range n).map fun (i:Nat)=>a+((0+i:Nat):Int)):=by
  rw[Array.toList_append]
  exact ints_append hv (ints_of 0 (by rw[Array.length_toList];exact hi.1) fun i v e=>(hi.2 i v (by rw[←Array.getElem?_toList];exact e)).imp fun t ht=>by rw[ht,Nat.zero_add])
 refine call_set_list hh l3 hints (Nat.lt_of_le_of_lt (Nat.succ_le_succ hle) (by decide)) fun h₄ tk₄ hset k4=>?_
 have y4:h₃.objs.size<h₄.objs.size:=hset.elim fun o z=>z.elim fun es z=>z.elim fun ep z=>z.elim fun t z=>Heap.lt_size z.1
 rw[hsum] at hset
 exact q _ _ _ ⟨h₄,tk₄,rfl,fun b o e=>k4 b o (Heap.lt_size (g3 b o e)) (g3 b o e),Nat.le_of_lt (Nat.lt_trans y3 y4)⟩ (Nat.le_of_lt y3) hset
end
end
section
open PySem PySem.Spec PySem.Calls PyProof.Rows PySem.W
noncomputable abbrev pw:Program:=PySem.Challenge.pw_uc0050_01
noncomputable def asgV:Stmt→Expr
 | .Assign _ v _=>v
 |_=> .Constant .none 0 ⟨0,0,0,0⟩
noncomputable def asgP:Stmt→Pos
 | .Assign [.Name _ p] _ _=>p
 |_=>⟨0,0,0,0⟩
noncomputable def cK:Expr→Nat
 | .Constant _ k _=>k
 |_=>0
noncomputable def callA:Expr→Expr
 | .Call _ (a::_) _ _=>a
 |_=> .Constant .none 0 ⟨0,0,0,0⟩
noncomputable def binL:Expr→List Expr
 | .BinOp (.List es _) _ _ _=>es
 |_=>[]
noncomputable def nmP:Expr→Pos
 | .Name _ p=>p
 |_=>⟨0,0,0,0⟩
noncomputable def callF:Expr→Expr
 | .Call f _ _ _=>f
 |_=> .Constant .none 0 ⟨0,0,0,0⟩
noncomputable def binR:Expr→Expr
 | .BinOp _ _ r _=>r
 |_=> .Constant .none 0 ⟨0,0,0,0⟩
noncomputable def binLE:Expr→Expr
 | .BinOp l _ _ _=>l
 |_=> .Constant .none 0 ⟨0,0,0,0⟩
noncomputable def callB:Expr→Expr
 | .Call _ (_::b::_) _ _=>b
 |_=> .Constant .none 0 ⟨0,0,0,0⟩
noncomputable def p1A (e:Expr):Pos:=nmP (callF e)
noncomputable def p2A (e:Expr):Pos:=(binLE (callA e)).pos
noncomputable def p3A (e:Expr):Pos:=nmP (callF (binR (callA e)))
noncomputable def p4A (e:Expr):Pos:=nmP (callF (callA (binR (callA e))))
noncomputable def kA (e:Expr):Nat:=cK (callA (callA (binR (callA e))))
noncomputable def paA (e:Expr):Pos:=(callA (callA (binR (callA e)))).pos
noncomputable def kB (e:Expr):Nat:=cK (callB (callA (binR (callA e))))
noncomputable def pbA (e:Expr):Pos:=(callB (callA (binR (callA e)))).pos
noncomputable def p5A (e:Expr):Pos:=(callA (binR (callA e))).pos
noncomputable def p6A (e:Expr):Pos:=(binR (callA e)).pos
noncomputable def p7A (e:Expr):Pos:=(callA e).pos
noncomputable def dKeys:Expr→List (Option Expr)
 | .Dict k _ _=>k
 |_=>[]
noncomputable def dVals:Expr→List Expr
 | .Dict _ v _=>v
 |_=>[]
noncomputable def b3L:List (Int×Str):=(litIS (dKeys (asgV (st 14))) (dVals (asgV (st 14)))).getD []
theorem ts14_eq:st 14= .Assign [.Name (Str.ofString "b3_exceptions") (asgP (st 14))] (.Dict (dKeys (asgV (st 14))) (dVals (asgV (st 14))) (asgV (st 14)).pos) (st 14).pos:=by kernel_rfl
theorem ts12_eq:st 12= .Assign [.Name (Str.ofString "b1_set") (asgP (st 12))] (asgV (st 12)) (st 12).pos:=by kernel_rfl
theorem b3L_lits:litIS (dKeys (asgV (st 14))) (dVals (asgV (st 14)))=some b3L:=by kernel_rfl
noncomputable def b1L:List Int:=[173,847,6150,6155,6156,6157,8203,8204,8205,8288,65279]++(List.range 16).map fun (i:Nat)=>(65024:Int)+((0+i:Nat):Int)
noncomputable def sortedI:List Int→Bool
 |a::b::r=>decide (a<b)&&sortedI (b::r)
 |_=>true
theorem sortedI_lt: ∀{l:List Int} {a:Int},sortedI (a::l)=true→ ∀x∈l,a<x
 |[],_,_,x,h=>nomatch h
 |b::r,a,h,x,hx=>by
  simp only[sortedI,Bool.and_eq_true,decide_eq_true_eq] at h
  rcases List.mem_cons.mp hx with rfl|hx
  ·exact h.1
  ·exact Int.lt_trans h.1 (sortedI_lt h.2 x hx)
theorem sortedI_nodup: ∀{l:List Int},sortedI l=true→l.Nodup
 |[],_=>List.nodup_nil
 |a::l,h=>by
  refine List.nodup_cons.mpr ⟨fun m=>Int.lt_irrefl a (sortedI_lt h a m),?_⟩
  cases l with
  |nil=>exact List.nodup_nil
  |cons b r=>
   simp only[sortedI,Bool.and_eq_true] at h
   exact sortedI_nodup h.2
theorem b3L_nodup:(b3L.map (·.1)).Nodup:=sortedI_nodup (by kernel_rfl)
theorem b3L_len:b3L.length=650:=by kernel_rfl
noncomputable def objSet (w:World) (o:Obj):Prop:= ∀(h:Heap) (a:Addr),h.get? a=some o→ ∃n,h.SetOf (PySem.intKind pw w) a (setIn b1L) n
noncomputable def objDict (w:World) (o:Obj):Prop:= ∀(h:Heap) (a:Addr),h.get? a=some o→ ∃kvs,h.DictOf (PySem.intKind pw w) a kvs∧Vals b3L kvs
section
variable {M:Model} {prog:Program} {w:World} {A:Around} {E:Value→Shared→Prop} {s:Shared} {c Pl F:Addr} {h₀:Heap} {mg₀ mg:Str→Option Value} {ps:Array Value} {defs:List DefItem} {consts:List (Str×PyData)} {objs:List (Str×(Obj→Prop))} {names:List Str} {Q:Flow→Shared→Prop}
theorem mod_name {x v:Str} {p p' pos:Pos} {kk:Nat} (X:Mod h₀ mg₀ c Pl s.heap mg ps defs consts objs names) (hloc:prog.main.scope.names.lookup x=some .local) (hnew:x∉names) (hnb:x≠"__builtins__") (hmod:prog.main.scope.kind= .module)
  (k: ∀h' mg' mg₀' tk,Mod h₀ mg₀' c Pl h' mg' ps defs consts objs names→(∀y,y≠x→mg₀' y=mg₀ y)→Q .next {s with heap:=h',toks:=tk}):wpAny M A (exec (.Assign [.Name x p] (.Constant (.str v) kk p') pos) (mainEnv prog c F)) Q E s:=by
 refine Mod.assign (d:= .str v) X hloc hnew (fun Q' q=>Constant_str (q _ _ fun h=> .str _ _)) (fun h' mg' tk Y=>?_) hnb hmod rfl
 refine k h' mg' (fun y=>if y=x then mg' x else mg₀ y) tk ⟨Y.main,Y.keep,Y.made,fun p hp=>Y.bound p (List.mem_cons_of_mem _ hp),fun y hy=>?_,X.dnames,X.cnames,Y.held,X.onames,Y.grows,Y.lowP,Y.lowG,Y.tabs⟩ fun y hy=>if_neg hy
 by_cases e:y=x
 ·subst e;rw[if_pos rfl]
 ·rw[if_neg e]
  exact Y.others y fun m=>by
   rcases List.mem_cons.mp m with q|q
   ·exact e q
   ·exact hy q
end
noncomputable def topObjs (w:World):List (Str×(Obj→Prop)):=[(Str.ofString "b3_exceptions",objDict w),(Str.ofString "b1_set",objSet w)]
theorem kind_mod:pw.main.scope.kind= .module:=by kernel_rfl
theorem lo_12:pw.main.scope.names.lookup (Str.ofString "b1_set")=some .local:=by kernel_rfl
theorem nb_12:Str.ofString "b1_set" ≠"__builtins__" :=by decide+kernel
theorem lo_14:pw.main.scope.names.lookup (Str.ofString "b3_exceptions")=some .local:=by kernel_rfl
theorem nb_14:Str.ofString "b3_exceptions" ≠"__builtins__" :=by decide+kernel
theorem b1_ints:litI (binL (callA (asgV (st 12))))=some [173,847,6150,6155,6156,6157,8203,8204,8205,8288,65279]:=by kernel_rfl
theorem b1_small:Builtin.Range.small 65024 65040 1=true:=by kernel_rfl
theorem b1_size:Builtin.Range.rangeSize 65024 65040 1=((16:Nat):Int):=by kernel_rfl
theorem sw_12 {c F:Addr}:swapsWith (asgV (st 12)) (some (.Name (Str.ofString "b1_set") (asgP (st 12)))) (st 12).pos.line (mainEnv pw c F)=pure false:=by kernel_rfl
theorem sw_14 {c F:Addr}:swapsWith (.Dict (dKeys (asgV (st 14))) (dVals (asgV (st 14))) (asgV (st 14)).pos) (some (.Name (Str.ofString "b3_exceptions") (asgP (st 14)))) (st 14).pos.line (mainEnv pw c F)=pure false:=by rfl
theorem val_12:asgV (st 12)= .Call (.Name (Str.ofString "set") (p1A (asgV (st 12)))) [.BinOp (.List (binL (callA (asgV (st 12)))) (p2A (asgV (st 12)))) .Add (.Call (.Name (Str.ofString "list") (p3A (asgV (st 12)))) [.Call (.Name (Str.ofString "range") (p4A (asgV (st 12)))) [.Constant (.int 65024) (kA (asgV (st 12))) (paA (asgV (st 12))),.Constant (.int 65040) (kB (asgV (st 12))) (pbA (asgV (st 12)))] [] (p5A (asgV (st 12)))] [] (p6A (asgV (st 12)))) (p7A (asgV (st 12)))] [] (asgV (st 12)).pos:=by kernel_rfl
theorem b3L_ne:b3L≠[]:=fun e=>by have:=b3L_len;rw[e] at this;cases this
theorem b3L_le:b3L.length≤sizeLine:=by rw[b3L_len];decide
structure Kept (s s':Shared):Prop where
 gens:s'.gens=s.gens
 drawn:s'.drawn=s.drawn
 os:s'.os=s.os
theorem Kept.refl {s:Shared}:Kept s s:=⟨rfl,rfl,rfl⟩
theorem Kept.trans {s s' s'':Shared} (a:Kept s s') (b:Kept s' s''):Kept s s'':=⟨b.gens.trans a.gens,b.drawn.trans a.drawn,b.os.trans a.os⟩
section
variable {M:Model} {prog:Program} {w:World} {A:Around} {E:Value→Shared→Prop} {s:Shared} {c Pl F:Addr} {h₀:Heap} {mg₀ mg:Str→Option Value} {ps:Array Value} {defs:List DefItem} {consts:List (Str×PyData)} {objs:List (Str×(Obj→Prop))} {names:List Str} {Q:Flow→Shared→Prop}
theorem x_name {x v:Str} {p p' pos:Pos} {kk:Nat} (X:Mod h₀ mg₀ c Pl s.heap mg ps defs consts objs names) (hloc:prog.main.scope.names.lookup x=some .local) (hnew:x∉names) (hnb:x≠"__builtins__") (hmod:prog.main.scope.kind= .module)
  (k: ∀s' mg' mg₀',Kept s s'→Mod h₀ mg₀' c Pl s'.heap mg' ps defs consts objs names→(∀y,y≠x→mg₀' y=mg₀ y)→Q .next s'):wpAny M A (exec (.Assign [.Name x p] (.Constant (.str v) kk p') pos) (mainEnv prog c F)) Q E s:=
 mod_name X hloc hnew hnb hmod fun h' mg' mg₀' tk Y e=>k _ mg' mg₀' ⟨rfl,rfl,rfl⟩ Y e
theorem x_int {x:Str} {v:Int} {p p' pos:Pos} {kk:Nat} (X:Mod h₀ mg₀ c Pl s.heap mg ps defs consts objs names) (hloc:prog.main.scope.names.lookup x=some .local) (hnew:x∉names) (hnb:x≠"__builtins__") (hmod:prog.main.scope.kind= .module)
  (k: ∀s' mg',Kept s s'→Mod h₀ mg₀ c Pl s'.heap mg' ps defs ((x,.int v)::consts) objs (x::names)→Q .next s'):wpAny M A (exec (.Assign [.Name x p] (.Constant (.int v) kk p') pos) (mainEnv prog c F)) Q E s:=
 Mod.assign (d:= .int v) X hloc hnew (fun Q' q=>wpAny_Constant_int (q _ _ fun h=> .int _ _)) (fun h' mg' tk Y=>k _ mg' ⟨rfl,rfl,rfl⟩ Y) hnb hmod rfl
theorem x_def {name:Str} {params:Arguments} {body:List Stmt} {scope:Scope} {pos:Pos} (X:Mod h₀ mg₀ c Pl s.heap mg ps defs consts objs names)
  (hexec:PlainDefTree name params body scope pos) (hfree: ∀x∈scope.names,x.2≠ .free) (hdoc:docOf body=none) (hloc:prog.main.scope.names.lookup name=some .local)
  (hq:qualnameIn {scope:=prog.main.scope,locals:=mainGlobals,globals:=mainGlobals,cells:=[]} name name=name) (hnew:name∉names)
  (hnb:name≠"__builtins__") (hmod:prog.main.scope.kind= .module) (hnf:codeAmong pos ps.toList=none) (hnd:params.defaults=[])
  (k: ∀s' mg' c',Kept s s'→Mod h₀ mg₀ c Pl s'.heap mg' (ps++ #[rawInt pos.line,rawInt pos.col,.ref c']) (⟨name,params,body,scope,pos⟩::defs) consts objs (name::names)→Q .next s'):
  wpAny M A (exec (.FunctionDef name params body [] none [] scope none name pos) (mainEnv prog c F)) Q E s:=
 Mod.def_plain X hexec hfree hdoc hloc hq hnew (fun h' mg' c' tk Y=>k _ mg' c' ⟨rfl,rfl,rfl⟩ Y) hnb hmod hnf hnd
end
theorem dict14 {w:World} {A:Around} {s:Shared} {env:Env} {Q:Value→Shared→Prop} (hs:sysModules<s.heap.objs.size)
  (q: ∀a o h₁ tk,s.heap.objs.size≤a→h₁.get? a=some o→objDict w o→(∀b o',s.heap.get? b=some o'→h₁.get? b=some o')→Q (.ref a) {s with heap:=h₁,toks:=tk}):
  wpAny (model pw w) A (eval (.Dict (dKeys (asgV (st 14))) (dVals (asgV (st 14))) (asgV (st 14)).pos) env) Q (fun _ _=>False) s:=by
 refine @dict_lits pw w A s env (dKeys (asgV (st 14))) (dVals (asgV (st 14))) (asgV (st 14)).pos b3L b3L_lits b3L_ne b3L_nodup b3L_le hs Q ?_
 intro d kvs s' u hd hm hv
 obtain ⟨h',tk,e,kk,zz⟩:=u
 obtain ⟨od,es,ep,hod,r⟩:=hm
 rw[e]
 rw[e] at hod
 exact q d od h' tk hd hod (fun h a e=>⟨kvs,⟨od,es,ep,e,r⟩,hv⟩) kk
theorem step14 {t14:Stmt} (ht:t14=st 14) {w:World} {A:Around} {s:Shared} {c Pl F:Addr} {h₀:Heap} {mg₀ mg:Str→Option Value} {ps:Array Value} {defs:List DefItem} {consts:List (Str×PyData)} {objs:List (Str×(Obj→Prop))} {names:List Str} {Q:Flow→Shared→Prop}
  (X:Mod h₀ mg₀ c Pl s.heap mg ps defs consts objs names) (hnew:Str.ofString "b3_exceptions" ∉names)
  (k: ∀h' mg' tk,Mod h₀ mg₀ c Pl h' mg' ps defs consts ((Str.ofString "b3_exceptions",objDict w)::objs) (Str.ofString "b3_exceptions" ::names)→Q .next {s with heap:=h',toks:=tk}):
  wpAny (model pw w) A (exec t14 (mainEnv pw c F)) Q (fun _ _=>False) s:=by
 rw[ht,ts14_eq]
 exact @Mod.assign_obj (model pw w) A (fun _ _=>False) s pw c Pl F h₀ mg₀ mg ps defs consts objs names Q (Str.ofString "b3_exceptions") (asgP (st 14)) (st 14).pos (.Dict (dKeys (asgV (st 14))) (dVals (asgV (st 14))) (asgV (st 14)).pos) (objDict w) X lo_14 hnew (fun Q' q=> @dict14 w A s (mainEnv pw c F) Q' (Nat.lt_of_lt_of_le (Nat.lt_trans (by decide:sysModules<mainGlobals) X.lowG) X.grows) q) k nb_14 kind_mod sw_14
theorem step14x {t14:Stmt} (ht:t14=st 14) {w:World} {A:Around} {s:Shared} {c Pl F:Addr} {h₀:Heap} {mg₀ mg:Str→Option Value} {ps:Array Value} {defs:List DefItem} {consts:List (Str×PyData)} {objs:List (Str×(Obj→Prop))} {names:List Str} {Q:Flow→Shared→Prop}
  (X:Mod h₀ mg₀ c Pl s.heap mg ps defs consts objs names) (hnew:Str.ofString "b3_exceptions" ∉names)
  (k: ∀s' mg',Kept s s'→Mod h₀ mg₀ c Pl s'.heap mg' ps defs consts ((Str.ofString "b3_exceptions",objDict w)::objs) (Str.ofString "b3_exceptions" ::names)→Q .next s'):
  wpAny (model pw w) A (exec t14 (mainEnv pw c F)) Q (fun _ _=>False) s:=step14 ht X hnew fun h' mg' tk Y=>k _ mg' ⟨rfl,rfl,rfl⟩ Y
theorem step12x {t12:Stmt} (ht:t12=st 12) {w:World} {A:Around} {s:Shared} {c Pl F:Addr} {h₀:Heap} {mg₀ mg mb:Str→Option Value} {ps:Array Value} {defs:List DefItem} {consts:List (Str×PyData)} {objs:List (Str×(Obj→Prop))} {names:List Str} {Q:Flow→Shared→Prop} (hh:A.handled=none) (hb:s.heap.Ns builtinsNs mb)
  (m1:mg (Str.ofString "set")=none) (m2:mg (Str.ofString "list")=none) (m3:mg (Str.ofString "range")=none) (b1:mb (Str.ofString "set")=some (.type "set")) (b2:mb (Str.ofString "list")=some (.type "list")) (b3:mb (Str.ofString "range")=some (.type "range"))
  (X:Mod h₀ mg₀ c Pl s.heap mg ps defs consts objs names) (hnew:Str.ofString "b1_set" ∉names)
  (k: ∀s' mg',Kept s s'→Mod h₀ mg₀ c Pl s'.heap mg' ps defs consts ((Str.ofString "b1_set",objSet w)::objs) (Str.ofString "b1_set" ::names)→Q .next s'):
  wpAny (model pw w) A (exec t12 (mainEnv pw c F)) Q (fun _ _=>False) s:=by
 rw[ht,ts12_eq]
 refine Mod.assign_obj (P:=objSet w) X lo_12 hnew (fun Q' q=>?_) (fun h' mg' tk Y=>k _ mg' ⟨rfl,rfl,rfl⟩ Y) nb_12 kind_mod sw_12
 rw[val_12]
 refine set_eval (ns:=[173,847,6150,6155,6156,6157,8203,8204,8205,8288,65279]) (n:=16) (mg:=mg) (mb:=mb) hh kind_mod rfl X.main.g hb m1 m2 m3 b1 b2 b3 b1_ints b1_small b1_size (by decide) (by decide) fun d m s' u hd hs=>?_
 obtain ⟨h',tk,rfl,kk,zz⟩:=u
 obtain ⟨od,es,ep,td,hod,r⟩:=hs
 exact q d od h' tk hd hod (fun h a e=>⟨m,od,es,ep,td,e,r⟩) kk
noncomputable def nmOf:Stmt→Str
 | .FunctionDef n .. =>n
 | .Assign [.Name n _] _ _=>n
 |_=>⟨#[]⟩
noncomputable def strV:Expr→Str
 | .Constant (.str v) _ _=>v
 |_=>⟨#[]⟩
inductive It
 |d (n:Nat)
 |i (n:Nat) (v:Int)
 |s (n:Nat)
structure Acc where
 defs:List DefItem
 consts:List (Str×PyData)
 names:List Str
 lines:List Nat
noncomputable def Acc.add (a:Acc) (x:Str):Acc:=⟨a.defs,a.consts,x::a.names,a.lines⟩
noncomputable def It.stm:It→Stmt
 | .d n=>st n
 | .i n _=>st n
 | .s n=>st n
noncomputable def It.next (a:Acc):It→Acc
 | .d n=>⟨⟨nmOf (st n),fdArgs (st n),fdBody (st n),fdScope (st n),(st n).pos⟩::a.defs,a.consts,nmOf (st n)::a.names,(st n).pos.line::a.lines⟩
 | .i n v=>⟨a.defs,(nmOf (st n),.int v)::a.consts,nmOf (st n)::a.names,a.lines⟩
 | .s _=>a
noncomputable def isNew (a:Acc) (x:Str):Bool:= !a.names.contains x
noncomputable def It.fresh (a:Acc):It→Bool
 | .d n=>isNew a (nmOf (st n))&& !a.lines.contains (st n).pos.line
 | .i n _=>isNew a (nmOf (st n))
 | .s _=>isNew a (Str.ofString "__name__")
noncomputable def freshAll:Acc→List It→Bool
 |_,[]=>true
 |a,t::r=>t.fresh a&&freshAll (t.next a) r
theorem isNew_not {a:Acc} {x:Str} (h:isNew a x=true):x∉a.names:=fun m=>by
 rw[isNew,List.contains_iff_mem.mpr m] at h
 cases h
inductive DefAt (t:Stmt):Prop
 |mk (e:t= .FunctionDef (nmOf t) (fdArgs t) (fdBody t) [] none [] (fdScope t) none (nmOf t) t.pos) (p:PlainDefTree (nmOf t) (fdArgs t) (fdBody t) (fdScope t) t.pos)
  (f:((fdScope t).names.all fun x=> !(x.2== .free))=true) (d:docOf (fdBody t)=none) (l:pw.main.scope.names.lookup (nmOf t)=some .local)
  (q:qualnameIn {scope:=pw.main.scope,locals:=mainGlobals,globals:=mainGlobals,cells:=[]} (nmOf t) (nmOf t)=nmOf t) (b:(nmOf t=="__builtins__")=false) (n:(fdArgs t).defaults=[])
noncomputable def It.Ok:It→Prop
 | .d n=>DefAt (st n)
 | .i n v=>st n= .Assign [.Name (nmOf (st n)) (asgP (st n))] (.Constant (.int v) (cK (asgV (st n))) (asgV (st n)).pos) (st n).pos∧pw.main.scope.names.lookup (nmOf (st n))=some .local∧(nmOf (st n)=="__builtins__")=false
 | .s n=>st n= .Assign [.Name (Str.ofString "__name__") (asgP (st n))] (.Constant (.str (strV (asgV (st n)))) (cK (asgV (st n))) (asgV (st n)).pos) (st n).pos
theorem lo_name:pw.main.scope.names.lookup (Str.ofString "__name__")=some .local:=by kernel_rfl
theorem nb_name:Str.ofString "__name__" ≠"__builtins__" :=by decide+kernel
noncomputable def trip:List (Pos×Addr)→List Value
 |[]=>[]
 |x::r=>rawInt x.1.line::rawInt x.1.col:: .ref x.2::trip r
theorem trip_app (p:Pos) (b:Addr) (l:List (Pos×Addr)):trip l++[rawInt p.line,rawInt p.col,.ref b]=trip (l++[(p,b)]):=by
 induction l with
 |nil=>rfl
 |cons x r ih=>exact congrArg (fun z=>rawInt x.1.line::rawInt x.1.col::Value.ref x.2::z) ih
theorem trip_none {p:Pos} {ls:List Nat} (h:p.line∉ls) (l:List (Pos×Addr)) (a: ∀x∈l,x.1.line∈ls):codeAmong p (trip l)=none:=by
 induction l with
 |nil=>rfl
 |cons x r ih=>
  have e:(((x.1.line:Nat):Int)==(p.line:Int))=false:=beq_eq_false_iff_ne.mpr fun e=>h (Int.ofNat.inj e▸a x List.mem_cons_self)
  rw[trip,rawInt,rawInt,codeAmong,e]
  exact ih fun y hy=>a y (List.mem_cons_of_mem _ hy)
structure At (w:World) (h₀:Heap) (mg:Str→Option Value) (c Pl:Addr) (s s':Shared) (mg' mz:Str→Option Value) (ps:Array Value) (objs:List (Str×(Obj→Prop))) (a:Acc) (l:List (Pos×Addr)):Prop where
 kept:Kept s s'
 mod:Mod h₀ mz c Pl s'.heap mg' ps a.defs a.consts objs a.names
 same: ∀y,y≠Str.ofString "__name__" →mz y=mg y
 tr:ps.toList=trip l
 ls: ∀x∈l,x.1.line∈a.lines
section
variable {w:World} {A:Around} {E:Value→Shared→Prop} {c Pl F:Addr} {h₀:Heap} {s:Shared} {mg:Str→Option Value} {objs:List (Str×(Obj→Prop))}
theorem it_walk {Q:Flow→Shared→Prop} {a:Acc} (t:It) (ok:t.Ok) (fr:t.fresh a=true) {s':Shared} {mg' mz:Str→Option Value} {ps:Array Value} {l:List (Pos×Addr)} (X:At w h₀ mg c Pl s s' mg' mz ps objs a l)
  (k: ∀s' mg' mz ps l,At w h₀ mg c Pl s s' mg' mz ps objs (t.next a) l→Q .next s'):wpAny (model pw w) A (exec t.stm (mainEnv pw c F)) Q E s':=by
 cases t with
 |d n=>
  have fr:=Bool.and_eq_true_iff.mp fr
  refine DefAt.casesOn ok fun e p f d l' q b nn=>?_
  rw[It.stm,e]
  refine x_def X.mod p (fun x hx e=>?_) d l' q (isNew_not fr.1) (beq_eq_false_iff_ne.mp b) kind_mod ?_ nn fun s2 mg2 c2 V Y=>k s2 mg2 mz _ (l++[((st n).pos,c2)]) ⟨X.kept.trans V,Y,X.same,?_,fun x hx=>?_⟩
  ·have:=List.all_eq_true.mp f x hx
   rw[e] at this
   cases this
  ·rw[X.tr]
   exact trip_none (fun m=>by
    rw[List.contains_iff_mem.mpr m] at fr
    cases fr.2) l X.ls
  ·rw[Array.toList_append,X.tr]
   exact trip_app _ _ _
  ·rcases List.mem_append.mp hx with m|m
   ·exact List.mem_cons_of_mem _ (X.ls x m)
   ·rw[List.mem_singleton.mp m]
    exact List.mem_cons_self
 |i n v=>
  rw[It.stm,ok.1]
  exact x_int X.mod ok.2.1 (isNew_not fr) (beq_eq_false_iff_ne.mp ok.2.2) kind_mod fun s2 mg2 V Y=>k s2 mg2 mz ps l ⟨X.kept.trans V,Y,X.same,X.tr,X.ls⟩
 |s n=>
  rw[It.stm,show st n=_ from ok]
  exact x_name X.mod lo_name (isNew_not fr) nb_name kind_mod fun s2 mg2 mz2 V Y D=>k s2 mg2 mz2 ps l ⟨X.kept.trans V,Y,fun y hy=>(D y hy).trans (X.same y hy),X.tr,X.ls⟩
theorem its_walk {Q:Flow→Shared→Prop} {rest:List Stmt} (ts:List It) {a:Acc} (ok: ∀t∈ts,t.Ok) (fr:freshAll a ts=true) {s':Shared} {mg' mz:Str→Option Value} {ps:Array Value} {l:List (Pos×Addr)} (X:At w h₀ mg c Pl s s' mg' mz ps objs a l)
  (k: ∀s' mg' mz ps l,At w h₀ mg c Pl s s' mg' mz ps objs (ts.foldl It.next a) l→wpAny (model pw w) A (execs rest (mainEnv pw c F)) Q E s'):wpAny (model pw w) A (execs (ts.map It.stm++rest) (mainEnv pw c F)) Q E s':=by
 induction ts generalizing a s' mg' mz ps l with
 |nil=>exact k _ _ _ _ _ X
 |cons t r ih=>
  have fr:=Bool.and_eq_true_iff.mp fr
  exact wpAny_execs_cons (it_walk t (ok t List.mem_cons_self) fr.1 X fun s2 mg2 mz2 ps2 l2 X2=>ih (fun t h=>ok t (List.mem_cons_of_mem _ h)) fr.2 X2 k)
theorem At.obj {a:Acc} {s₁ s₂:Shared} {mg₁ mg₂ mz:Str→Option Value} {ps:Array Value} {l:List (Pos×Addr)} {x:Str} {P:Obj→Prop} (X:At w h₀ mg c Pl s s₁ mg₁ mz ps objs a l) (V:Kept s₁ s₂) (Y:Mod h₀ mz c Pl s₂.heap mg₂ ps a.defs a.consts ((x,P)::objs) (x::a.names)):At w h₀ mg c Pl s s₂ mg₂ mz ps ((x,P)::objs) (a.add x) l:=
 ⟨X.kept.trans V,Y,X.same,X.tr,X.ls⟩
end
noncomputable def its1:List It:=[.s 0,.i 1 4000,.d 2,.d 3,.d 4,.d 5,.d 6,.d 7,.s 8,.d 9,.d 10,.s 11]
noncomputable def its2:List It:=[.d 13]
noncomputable def its3:List It:=[.d 15,.s 16,.i 17 40,.i 18 2,.i 19 1,.d 20,.d 21,.s 22,.d 23,.d 24,.d 25,.d 26,.d 27,.d 28,.d 29,.d 30,.d 31,.d 32]
theorem top_eq:pw.main.body=its1.map It.stm++st 12::(its2.map It.stm++st 14::(its3.map It.stm++[])):=by kernel_rfl
noncomputable def acc0:Acc:=⟨[],[],[],[]⟩
noncomputable def acc1:Acc:=its1.foldl It.next acc0
noncomputable def acc2:Acc:=acc1.add (Str.ofString "b1_set")
noncomputable def acc3:Acc:=its2.foldl It.next acc2
noncomputable def acc4:Acc:=acc3.add (Str.ofString "b3_exceptions")
noncomputable def acc5:Acc:=its3.foldl It.next acc4
noncomputable def topDefs:List DefItem:=acc5.defs
noncomputable def topConsts:List (Str×PyData):=acc5.consts
noncomputable def topNames:List Str:=acc5.names
theorem fr1:freshAll acc0 its1=true:=by kernel_rfl
theorem fr2:freshAll acc2 its2=true:=by kernel_rfl
theorem fr3:freshAll acc4 its3=true:=by kernel_rfl
theorem ok_cons {t:It} {l:List It} (h:t.Ok) (k: ∀x∈l,It.Ok x): ∀x∈t::l,It.Ok x:=List.forall_mem_cons.mpr ⟨h,k⟩
theorem ok_d {n:Nat} {l:List It} (k: ∀x∈l,It.Ok x) (h:DefAt (st n)): ∀x∈It.d n::l,x.Ok:=ok_cons h k
theorem ok_i {n:Nat} {v:Int} {l:List It} (k: ∀x∈l,It.Ok x) (e:st n= .Assign [.Name (nmOf (st n)) (asgP (st n))] (.Constant (.int v) (cK (asgV (st n))) (asgV (st n)).pos) (st n).pos) (h:pw.main.scope.names.lookup (nmOf (st n))=some .local) (b:(nmOf (st n)=="__builtins__")=false): ∀x∈It.i n v::l,x.Ok:=ok_cons ⟨e,h,b⟩ k
theorem ok_s {n:Nat} {l:List It} (k: ∀x∈l,It.Ok x) (e:st n= .Assign [.Name (Str.ofString "__name__") (asgP (st n))] (.Constant (.str (strV (asgV (st n)))) (cK (asgV (st n))) (asgV (st n)).pos) (st n).pos): ∀x∈It.s n::l,x.Ok:=ok_cons e k
theorem its_ok:(∀t∈its1,t.Ok)∧(∀t∈its2,t.Ok)∧ ∀t∈its3,t.Ok:=by
 refine ⟨?_,?_,?_⟩<;>repeat first
  |exact List.forall_mem_nil _
  |refine ok_d ?_ ⟨by kernel_rfl,fun env=>by kernel_rfl,by kernel_rfl,by kernel_rfl,by kernel_rfl,by kernel_rfl,by kernel_rfl,by kernel_rfl⟩
  |refine ok_i ?_ (by kernel_rfl) (by kernel_rfl) (by kernel_rfl)
  |refine ok_s ?_ (by kernel_rfl)
end
section
open PySem PySem.Spec PySem.Calls PyProof.Rows PySem.W
theorem top_walk {w:World} {A:Around} {s:Shared} {c Pl F:Addr} {mg mb:Str→Option Value} (hh:A.handled=none) (X0:Mod s.heap mg c Pl s.heap mg #[] [] [] [] []) (hb:s.heap.Ns builtinsNs mb) (hPl:builtinsNs≠Pl)
  (m1:mg (Str.ofString "set")=none) (m2:mg (Str.ofString "list")=none) (m3:mg (Str.ofString "range")=none) (b1:mb (Str.ofString "set")=some (.type "set")) (b2:mb (Str.ofString "list")=some (.type "list")) (b3:mb (Str.ofString "range")=some (.type "range")) {Q:Flow→Shared→Prop}
  (k: ∀s' mg' mg₀' ps',Kept s s'→Mod s.heap mg₀' c Pl s'.heap mg' ps' topDefs topConsts (topObjs w) topNames→(∀y,y≠Str.ofString "__name__" →mg₀' y=mg y)→Q .next s'):
  wpAny (model pw w) A (execs pw.main.body (mainEnv pw c F)) Q (fun _ _=>False) s:=by
 rw[top_eq]
 generalize h14:st 14=t14
 generalize h12:st 12=t12
 have X0:At w s.heap mg c Pl s s mg mg #[] [] acc0 []:=⟨.refl,X0,fun _ _=>rfl,rfl,fun x hx=>nomatch hx⟩
 refine its_walk its1 its_ok.1 fr1 X0 fun s1 mg1 mz1 ps1 l1 X1=>?_
 have no: ∀x,isNew acc1 x=true→x≠Str.ofString "__name__" →mg x=none→mg1 x=none:=fun x h h' e=>(X1.mod.others x (isNew_not h)).trans ((X1.same x h').trans e)
 refine wpAny_execs_cons (step12x h12.symm (mb:=mb) hh (hb.at fun o e=>X1.mod.keep _ o hPl (by decide) e) (no _ (by kernel_rfl) (by decide+kernel) m1) (no _ (by kernel_rfl) (by decide+kernel) m2) (no _ (by kernel_rfl) (by decide+kernel) m3) b1 b2 b3 X1.mod (isNew_not (a:=acc1) (by kernel_rfl)) fun s2 mg2 V2 X2=>?_)
 refine its_walk its2 its_ok.2.1 fr2 (X1.obj V2 X2) fun s3 mg3 mz3 ps3 l3 X3=>?_
 refine wpAny_execs_cons (step14x h14.symm X3.mod (isNew_not (a:=acc3) (by kernel_rfl)) fun s4 mg4 V4 X4=>?_)
 refine its_walk its3 its_ok.2.2 fr3 (X3.obj V4 X4) fun s5 mg5 mz5 ps5 l5 X5=>?_
 refine wpAny_execs_nil ?_
 exact k _ _ _ _ X5.kept X5.mod X5.same
end
section
open PySem PySem.Spec PySem.Calls PyProof.Rows PySem.W
theorem op_eq:opening pw=plainProg pw.main.scope.names:=by kernel_rfl
theorem beh_eq:behindTheImports pw=pw.main.body:=by kernel_rfl
theorem mods_eq:importedModules pw.main.body=[]:=by kernel_rfl
theorem numpy_eq:pw.main.body.any namesNumpy=false:=by kernel_rfl
theorem fence_all (s:Shared):fenceModules? pw s=some s:=by
 unfold fenceModules?
 rw[mods_eq,numpy_eq];rfl
structure Boots (w:World) (s:Shared):Prop where
 run:AfterRun (opening pw) w s
 heap:s.heap=boot_heap w.params
 gens:s.gens= #[]
 drawn:s.drawn=boot_drawn
theorem boots (w:World): ∃s,Boots w s:=by
 have h:=boot_open (p:=pw) (N:=600) op_eq rfl fence_all w
 obtain ⟨s,h1,h2⟩:=Option.map_eq_some_iff.mp h
 unfold fencedOpening at h1
 rw[←table_eq_tree] at h1
 obtain ⟨s',h3,h4⟩:=Option.bind_eq_some_iff.mp h1
 rw[fence_all] at h4
 cases h4
 have A:=AfterImport.of_importEnds h3
 simp only[Prod.mk.injEq] at h2
 exact ⟨s,⟨A,h2.1,h2.2.1,h2.2.2.1⟩⟩
theorem b_g (P:Params):(boot_heap P).isNs mainGlobals=true:=by kernel_rfl
theorem b_b (P:Params):(boot_heap P).isNs builtinsNs=true:=by kernel_rfl
theorem b_c (P:Params):(boot_heap P).isNs cStatics=true:=by kernel_rfl
theorem b_blt (P:Params):(boot_heap P).bltView=bltViewBooted:=by kernel_rfl
theorem b_acc (P:Params):(boot_heap P).accountedOkI []=true:=by kernel_rfl
theorem b_lim (P:Params):(boot_heap P).nsMap cStatics "sys.recursionlimit" =none:=by kernel_rfl
theorem b_keys (P:Params):((boot_heap P).nsKeys mainGlobals).all (fun k=>startupNames.contains k)=true:=by kernel_rfl
noncomputable def bmAddr:Addr:=4
theorem b_bm0 (P:Params):((boot_heap P).get? bmAddr).map (fun o=>(o.cls,o.dict,o.data))=some (.type "module",some builtinsNs,.plain):=by kernel_rfl
theorem b_bm1 (P:Params):(boot_heap P).nsMap mainGlobals "__builtins__" =some (.ref bmAddr):=by kernel_rfl
theorem b_sys0 (P:Params):((boot_heap P).get? sysModules).isSome=true:=by kernel_rfl
theorem b_sys (P:Params): ∃o,(boot_heap P).get? sysModules=some o:=Option.isSome_iff_exists.mp (b_sys0 P)
theorem b_bm (P:Params): ∃o,(boot_heap P).get? bmAddr=some o∧o.cls= .type "module" ∧o.dict=some builtinsNs∧o.data= .plain:=by
 obtain ⟨o,h1,h2⟩:=Option.map_eq_some_iff.mp (b_bm0 P)
 simp only[Prod.mk.injEq] at h2
 exact ⟨o,h1,h2⟩
end
section
open PySem PySem.Spec PySem.Calls PyProof.Rows PySem.W
noncomputable def stubTree (prog:Program) (stmts:List Stmt):Sem PySem.Fin:=do
 let code ←moduleCode prog.main
 let frame ←newBodyFrame code mainNs mainNs
 let _ ←run (.body stmts {scope:=prog.main.scope,locals:=mainNs,globals:=mainNs,cells:=[],code,frame:=some frame})
 ret .none
theorem stub_eq (p:Program):topStub p=⟨stubTree p (behindTheImports p),.builtin "claim.caller" {},default,[]⟩:=rfl
noncomputable def topA (prog:Program) (c F:Addr):Around:=(callerA.mark none).deeper (mainEnv prog c F)
theorem topA_handled (prog:Program) (c F:Addr):(topA prog c F).handled=none:=rfl
theorem stub_walk {prog:Program} {w:World} {s:Shared} {stmts:List Stmt} {mg:Str→Option Value} {R:Shared→Prop} (hann:hasAnns stmts=false) (hdoc:docOf stmts=none)
  (hg:s.heap.Ns mainGlobals mg)
  (h: ∀c Pl F h₁ tk,(∀b o,s.heap.get? b=some o→h₁.get? b=some o)→s.heap.objs.size≤c→s.heap.objs.size≤Pl→h₁.IsCode c Pl #[]→
   wpAny (model prog w) (topA prog c F) (execs stmts (mainEnv prog c F)) (fun _ s'=>R s') (fun _ _=>False) {s with heap:=h₁,toks:=tk}):
  wpAny (model prog w) callerA (stubTree prog stmts) (fun fin s'=> ∃f,fin= .done f∧R s') (fun _ _=>False) s:=by
 unfold stubTree
 refine wpAny_bind (wpAny_moduleCode fun c Pl h' tk hk hc hP hcode=>?_)
 have hg':h'.Ns mainGlobals mg:=hg.keeps hk
 unfold newBodyFrame
 refine wpAny_bind (wpAny_bind (wpAny_nsGet hg' (wpAny_alloc ?_)))
 refine wpAny_bind (wpAny_run ?_)
 refine codeAny_mono (codeAny_body hann hdoc (R:=fun r s'=>(∃f,r= .ok f)∧R s') (wpAny_mono (h c Pl h'.objs.size _ tk (fun b o e=>Heap.get?_push_of_some _ (hk b o e)) hc hP (hcode.push _)) (fun f s' r=>⟨⟨f,rfl⟩,r⟩) fun _ _ x=>x.elim)) ?_
 rintro r s' ⟨⟨f,rfl⟩,hR⟩
 exact wpAny_pure ⟨_,rfl,hR⟩
end
section
open PySem PySem.Spec PySem.Calls PyProof.Rows PySem.W
theorem top_ann:hasAnns pw.main.body=false:=by kernel_rfl
theorem top_doc:docOf pw.main.body=none:=by kernel_rfl
theorem top_bound:topNames.all (fun x=>pw.boundNames.contains x)=true:=by kernel_rfl
theorem laid_not:laidNames.all (fun x=> !topNames.contains x&&x != Str.ofString "__name__")=true:=by kernel_rfl
theorem b_none (P:Params):((boot_heap P).nsMap mainGlobals (Str.ofString "set"),(boot_heap P).nsMap mainGlobals (Str.ofString "list"),(boot_heap P).nsMap mainGlobals (Str.ofString "range"))=(none,none,none):=by kernel_rfl
theorem b_blt3 (P:Params):((boot_heap P).nsMap builtinsNs (Str.ofString "set"),(boot_heap P).nsMap builtinsNs (Str.ofString "list"),(boot_heap P).nsMap builtinsNs (Str.ofString "range"))=(some (.type "set"),some (.type "list"),some (.type "range")):=by kernel_rfl
structure Left (w:World) (s s₁:Shared) where
 hA:Heap
 mz:Str→Option Value
 mg:Str→Option Value
 c:Addr
 Pl:Addr
 ps:Array Value
 grow: ∀b o,s.heap.get? b=some o→hA.get? b=some o
 mod:Mod hA mz c Pl s₁.heap mg ps topDefs topConsts (topObjs w) topNames
 same: ∀y,y≠Str.ofString "__name__" →mz y=s.heap.nsMap mainGlobals y
 highP:s.heap.objs.size≤Pl
 highc:s.heap.objs.size≤c
 gens:s₁.gens=s.gens
 drawn:s₁.drawn=s.drawn
 os:s₁.os=s.os
theorem stub_run (w:World) {s:Shared} (B:Boots w s) {R:Shared→Prop} (hR: ∀s₁,Left w s s₁→R s₁):
  wpAny (model pw w) callerA (stubTree pw (behindTheImports pw)) (fun fin s'=> ∃f,fin= .done f∧R s'∧s'.gens= #[]) (fun _ _=>False) s:=by
 rw[beh_eq]
 have hg:s.heap.isNs mainGlobals=true:=by rw[B.heap];exact b_g _
 have hb:s.heap.isNs builtinsNs=true:=by rw[B.heap];exact b_b _
 have hG:=Heap.Ns.of_isNs hg
 have hB:=Heap.Ns.of_isNs hb
 have n3:=b_none w.params
 have b3:=b_blt3 w.params
 rw[←B.heap] at n3 b3
 simp only[Prod.mk.injEq] at n3 b3
 obtain ⟨bo,e1,e2,e3,e4⟩:=b_bm w.params
 have bm:=b_bm1 w.params
 rw[←B.heap] at e1 bm
 refine stub_walk (R:=fun s'=>R s'∧s'.gens= #[]) top_ann top_doc hG fun c Pl F h₁ tk hk hc hP hcode=>?_
 have lg:mainGlobals<s.heap.objs.size:=hG.lt
 have lb:builtinsNs<s.heap.objs.size:=hB.lt
 have lm:bmAddr<s.heap.objs.size:=Heap.lt_size e1
 have hbm:h₁.BuiltinsAt (s.heap.nsMap mainGlobals) Pl:=⟨bmAddr,bo,bm,by decide,by decide,Nat.ne_of_lt (Nat.lt_of_lt_of_le lm hP),hk _ _ e1,e2,e3,e4⟩
 have hmain:h₁.Main (s.heap.nsMap mainGlobals) c Pl #[]:=⟨hG.keeps hk,hcode,⟨Nat.lt_of_lt_of_le lg hc,Nat.lt_of_lt_of_le lg hP⟩,hbm⟩
 have X0:Mod h₁ (s.heap.nsMap mainGlobals) c Pl h₁ (s.heap.nsMap mainGlobals) #[] [] [] [] []:=
  ⟨hmain,fun _ _ _ _ e=>e,(fun _ hd=>nomatch hd),(fun _ hp=>nomatch hp),fun _ _=>rfl,(fun _ hd=>nomatch hd),(fun _ hp=>nomatch hp),(fun _ hp=>nomatch hp),(fun _ hp=>nomatch hp),Nat.le_refl _,hcode.lt.2,(hG.keeps hk).lt,(fun _ hd=>nomatch hd)⟩
 have W:= @top_walk w (topA pw c F) {s with heap:=h₁,toks:=tk} c Pl F (s.heap.nsMap mainGlobals) (s.heap.nsMap builtinsNs) (topA_handled _ _ _) X0 (hB.keeps hk) (Nat.ne_of_lt (Nat.lt_of_lt_of_le lb hP)) n3.1 n3.2.1 n3.2.2 b3.1 b3.2.1 b3.2.2
  (fun _ s'=>R s'∧s'.gens= #[]) (fun s' mg' mz ps' V X D=>⟨hR s' ⟨h₁,mz,mg',c,Pl,ps',hk,X,D,hP,hc,V.gens,V.drawn,V.os⟩,V.gens.trans B.gens⟩)
 exact W
end
section
open PySem PySem.Spec PySem.Calls PyProof.Rows PySem.W
section
variable {w:World} {s s₁:Shared}
theorem Left.keep (L:Left w s s₁) {b:Addr} {o:Obj} (hG:b≠mainGlobals) (h:s.heap.get? b=some o):s₁.heap.get? b=some o:=
 L.mod.keep b o (Nat.ne_of_lt (Nat.lt_of_lt_of_le (Heap.lt_size h) L.highP)) hG (L.grow _ _ h)
theorem Left.keepN (L:Left w s s₁) {a:Addr} {m:Str→Option Value} (hG:a≠mainGlobals) (h:s.heap.Ns a m):s₁.heap.Ns a m:=h.at fun o e=>L.keep hG e
theorem Left.glob (L:Left w s s₁) {x:Str} (h1:x∉topNames) (h2:x≠Str.ofString "__name__"):L.mg x=s.heap.nsMap mainGlobals x:=(L.mod.others x h1).trans (L.same x h2)
theorem get_of_ns {h:Heap} {a:Addr} {m:Str→Option Value} (x:h.Ns a m): ∃o,h.get? a=some o:=let ⟨o,_,_,e,_⟩:=x;⟨o,e⟩
theorem static_same (L:Left w s s₁) (hc:s.heap.isNs cStatics=true):staticOf s₁.heap=staticOf s.heap:=by
 obtain ⟨o,e⟩:=get_of_ns (Heap.Ns.of_isNs hc)
 have e':=L.keep (by decide) e
 funext k
 unfold staticOf
 rw[e,e']
theorem builtin_same (L:Left w s s₁) (hc:s.heap.isNs builtinsNs=true):builtinOf s₁.heap=builtinOf s.heap:=by
 obtain ⟨o,e⟩:=get_of_ns (Heap.Ns.of_isNs hc)
 have e':=L.keep (by decide) e
 funext k
 unfold builtinOf
 rw[e,e']
theorem glob_of (L:Left w s s₁) (x:Str):globalOf s₁.heap x=L.mg x:=PySem.Claim2Try.globalOf_of_ns L.mod.main.g x
theorem top_ran (w:World) {s:Shared} (B:Boots w s): ∃s₁,TopRan pw w s s₁∧s₁.asleep∧s₁.gens= #[]∧Nonempty (Left w s s₁):=by
 have hz:s.asleep:=AfterImport.life B.run
 obtain ⟨m,t₁,s₁,h1,h2,h3,h4,h5⟩:=top_through (prog:=pw) (w:=w) (R:=fun s'=>Nonempty (Left w s s')) hz (stub_run w B fun s₁ L=>⟨L⟩)
 obtain ⟨L⟩:=h4
 refine ⟨s₁,?_,Shared.asleep_of_life h3 hz,h5,⟨L⟩⟩
 have hg:s.heap.isNs mainGlobals=true:=by rw[B.heap];exact b_g _
 have hb:s.heap.isNs builtinsNs=true:=by rw[B.heap];exact b_b _
 have hc:s.heap.isNs cStatics=true:=by rw[B.heap];exact b_c _
 have hst:=static_same L hc
 have hbt:=builtin_same L hb
 refine ⟨⟨m,t₁,?_,h2⟩,h3,Shared.rest_eq L.os,fun b o hb' hn=>L.keep (fun e=>hn (.inl e)) hb',?_,fun key=> .inl (by rw[hst]),?_,?_,?_,fun g hg'=>by rw[h5] at hg';simp at hg',?_,?_⟩
 ·rw[stub_eq];exact h1
 ·rw[mods_eq]
  have:=Heap.accountedI_of_ok (h:=s.heap) (mods:=[]) (by rw[B.heap];exact b_acc _)
  intro k v hv
  rw[hst] at hv⊢
  exact this k v hv
 ·obtain ⟨o,es,ep,ho,hd,hk,_⟩:=L.mod.main.g
  exact ⟨o,es,ep,ho,hd,hk⟩
 ·intro x hx
  rw[hbt]
  exact (Pin.builtinOf_eq hb x).trans (Heap.of_bltView hb (by rw[B.heap];exact b_blt _) x hx)
 ·obtain ⟨bm,o,e1,e2,e3,e4,e5,e6,e7,e8⟩:=L.mod.main.bmod
  exact ⟨bm,o,(glob_of L _).trans e1,e5,e6,e7⟩
 ·intro x v hx
  rw[glob_of L] at hx
  by_cases hn:x∈topNames
  ·exact .inr (List.contains_iff_mem.mp (List.all_eq_true.mp top_bound x hn))
  ·left
   by_cases hy:x=Str.ofString "__name__"
   ·subst hy;exact List.mem_cons_self ..
   ·rw[L.glob hn hy] at hx
    by_cases hk:x∈s.heap.nsKeys mainGlobals
    ·have:=List.all_eq_true.mp (b_keys w.params) x (by rw[←B.heap];exact hk)
     exact List.contains_iff_mem.mp this
    ·rw[Heap.nsMap_none hk] at hx;cases hx
 ·intro x hx
  have q:=List.all_eq_true.mp laid_not x hx
  simp only[Bool.and_eq_true,Bool.not_eq_true',bne_iff_ne,ne_eq] at q
  rw[glob_of L,L.glob (fun z=>by rw[List.contains_iff_mem.mpr z] at q;cases q.1) q.2]
  exact (Pin.globalOf_eq hg x).symm
end
end
section
open PySem PySem.Spec PySem.Calls PyProof.Rows PySem.W
noncomputable def OneT (base h:Heap) (P:Addr):Prop:=
 ∃ps,h.get? P=some (tabObj ps)∧TriplesOk ps.toList∧(∀cv,codeAmong nd4.pos ps.toList=some cv→ ∃c',cv= .ref c'∧base.get? c'=none∧h.CodeRec cv q4)∧
  (∀cv,codeAmong nd5.pos ps.toList=some cv→ ∃c',cv= .ref c'∧base.get? c'=none∧h.CodeRec cv q5)
noncomputable def mkC (w:World) (base:Heap) (P4 P5:Addr) (os:OsState) (a:Addr) (ns:List Int):Ctx:=
 ⟨pw,w,base,[P4,P5],fun h=>OneT base h P4∧OneT base h P5,os,a,ns,AllBare⟩
theorem OneT.kept {base h h':Heap} {P:Addr} {tabs:List Addr} (x:OneT base h P) (hp:P∈tabs) (k: ∀b o,h.get? b=some o→(b∈tabs∨CodeLike o)→h'.get? b=some o):OneT base h' P:=by
 obtain ⟨ps,e,t,a,b⟩:=x
 refine ⟨ps,k _ _ e (.inl hp),t,fun cv h=>?_,fun cv h=>?_⟩
 ·obtain ⟨c',e1,e2,c,o,vs,t,e3,e4,e5,e6⟩:=a cv h
  exact ⟨c',e1,e2,c,o,vs,t,e3,k _ _ e4 (.inr ⟨vs,_,t,e5,e6⟩),e5,e6⟩
 ·obtain ⟨c',e1,e2,c,o,vs,t,e3,e4,e5,e6⟩:=b cv h
  exact ⟨c',e1,e2,c,o,vs,t,e3,k _ _ e4 (.inr ⟨vs,_,t,e5,e6⟩),e5,e6⟩
theorem mkC_ok {w:World} {base:Heap} {P4 P5:Addr} {os:OsState} {a:Addr} {ns:List Int} (h4:base.get? P4=some (tabObj #[])) (h5:base.get? P5=some (tabObj #[])):CtxOk (mkC w base P4 P5 os a ns):=by
 refine ⟨fun b hb=>?_,fun h hx b hb=>?_,fun h h' hx k=>⟨hx.1.kept (by simp[mkC]) k,hx.2.kept (by simp[mkC]) k⟩⟩
 ·simp only[mkC,List.mem_cons,List.not_mem_nil,or_false] at hb
  rcases hb with rfl|rfl
  ·exact ⟨_,h4⟩
  ·exact ⟨_,h5⟩
 ·simp only[mkC,List.mem_cons,List.not_mem_nil,or_false] at hb
  rcases hb with rfl|rfl
  ·obtain ⟨ps,e,_⟩:=hx.1;exact ⟨_,e,rfl⟩
  ·obtain ⟨ps,e,_⟩:=hx.2;exact ⟨_,e,rfl⟩
theorem oneT_new {base:Heap} {P:Addr} (h:base.get? P=some (tabObj #[])):OneT base base P:=
 ⟨#[],h,trivial,fun cv q=>by simp[codeAmong] at q,fun cv q=>by simp[codeAmong] at q⟩
theorem codeAmong_other {pos pos':Pos} {c:Value} (hne:((pos.line:Int)==(pos'.line:Int)&&(pos.col:Int)==(pos'.col:Int))=false) (l:List Value) (h:TriplesOk l):
  codeAmong pos' (l++[rawInt pos.line,rawInt pos.col,c])=codeAmong pos' l:=by
 fun_induction TriplesOk l with
 |case1=>
  simp only[List.nil_append,codeAmong,rawInt]
  rw[if_neg (by rw[hne];decide)]
 |case2 a t b u x rest ih=>
  simp only[List.cons_append,codeAmong]
  rw[ih h]
 |case3 l h1 h2=>exact h.elim
theorem pos_ne45:((nd4.pos.line:Int)==(nd5.pos.line:Int)&&(nd4.pos.col:Int)==(nd5.pos.col:Int))=false:=by kernel_rfl
theorem pos_ne54:((nd5.pos.line:Int)==(nd4.pos.line:Int)&&(nd5.pos.col:Int)==(nd4.pos.col:Int))=false:=by kernel_rfl
theorem rec_ext {h h':Heap} {P:Addr} {ps:Array Value} {cv:Value} {q:Str} (x:Heap.ExtBut P h h') (e:h.get? P=some (tabObj ps)) (t:TriplesOk ps.toList) (r:h.CodeRec cv q):h'.CodeRec cv q:=by
 obtain ⟨c,o,vs,u,e1,e2,e3,e4⟩:=r
 refine ⟨c,o,vs,u,e1,x _ _ (fun z=>?_) e2,e3,e4⟩
 subst z
 rw[e] at e2
 cases e2
 simp only[tabObj,Data.fields.injEq] at e3
 subst e3
 obtain ⟨l⟩:=ps
 match l,t with
 |[],_=>simp at e4
 | .int _ _:: .int _ _::_::_,_=>simp at e4
theorem OneT.grow4 {base h h':Heap} {P P':Addr} {ps:Array Value} {c':Addr} (x:OneT base h P') (e:h.get? P=some (tabObj ps)) (tr:TriplesOk ps.toList) (hx:Heap.ExtBut P h h') (hb:base.get? c'=none) (hr:h'.CodeRec (.ref c') q4)
  (hn:codeAmong nd4.pos ps.toList=none) (e':h'.get? P=some (tabObj (ps++ #[rawInt nd4.pos.line,rawInt nd4.pos.col,.ref c']))):OneT base h' P':=by
 obtain ⟨ps',e1,t,a,b⟩:=x
 by_cases hP:P'=P
 ·subst hP
  rw[e] at e1
  cases e1
  refine ⟨_,e',?_,fun cv hc=>?_,fun cv hc=>?_⟩
  ·rw[Array.toList_append];exact TriplesOk_snoc _ _ _ _ t
  ·rw[Array.toList_append,codeAmong_snoc _ t hn] at hc
   cases hc
   exact ⟨c',rfl,hb,hr⟩
  ·rw[Array.toList_append,codeAmong_other pos_ne45 _ t] at hc
   obtain ⟨c'',q1,q2,q3⟩:=b cv hc
   exact ⟨c'',q1,q2,rec_ext hx e tr q3⟩
 ·refine ⟨ps',hx _ _ hP e1,t,fun cv hc=>?_,fun cv hc=>?_⟩
  ·obtain ⟨c'',q1,q2,q3⟩:=a cv hc
   exact ⟨c'',q1,q2,rec_ext hx e tr q3⟩
  ·obtain ⟨c'',q1,q2,q3⟩:=b cv hc
   exact ⟨c'',q1,q2,rec_ext hx e tr q3⟩
theorem OneT.grow5 {base h h':Heap} {P P':Addr} {ps:Array Value} {c':Addr} (x:OneT base h P') (e:h.get? P=some (tabObj ps)) (tr:TriplesOk ps.toList) (hx:Heap.ExtBut P h h') (hb:base.get? c'=none) (hr:h'.CodeRec (.ref c') q5)
  (hn:codeAmong nd5.pos ps.toList=none) (e':h'.get? P=some (tabObj (ps++ #[rawInt nd5.pos.line,rawInt nd5.pos.col,.ref c']))):OneT base h' P':=by
 obtain ⟨ps',e1,t,a,b⟩:=x
 by_cases hP:P'=P
 ·subst hP
  rw[e] at e1
  cases e1
  refine ⟨_,e',?_,fun cv hc=>?_,fun cv hc=>?_⟩
  ·rw[Array.toList_append];exact TriplesOk_snoc _ _ _ _ t
  ·rw[Array.toList_append,codeAmong_other pos_ne54 _ t] at hc
   obtain ⟨c'',q1,q2,q3⟩:=a cv hc
   exact ⟨c'',q1,q2,rec_ext hx e tr q3⟩
  ·rw[Array.toList_append,codeAmong_snoc _ t hn] at hc
   cases hc
   exact ⟨c',rfl,hb,hr⟩
 ·refine ⟨ps',hx _ _ hP e1,t,fun cv hc=>?_,fun cv hc=>?_⟩
  ·obtain ⟨c'',q1,q2,q3⟩:=a cv hc
   exact ⟨c'',q1,q2,rec_ext hx e tr q3⟩
  ·obtain ⟨c'',q1,q2,q3⟩:=b cv hc
   exact ⟨c'',q1,q2,rec_ext hx e tr q3⟩
end
section
open PySem PySem.Spec PySem.Calls PyProof.Rows PySem.W
theorem top_df:(topDefs.all fun d=>d.params.defaults.isEmpty)=true:=by kernel_rfl
theorem df_of {d:DefItem} (h:d∈topDefs):d.params.defaults=[]:=List.isEmpty_iff.mp (List.all_eq_true.mp top_df _ h)
theorem mem_2:(⟨Str.ofString "_div2n1n",fdArgs (st 2),fdBody (st 2),fdScope (st 2),(st 2).pos⟩:DefItem)∈topDefs:=List.mem_of_getElem? (i:=21) (by kernel_rfl)
theorem mem_3:(⟨Str.ofString "_div3n2n",fdArgs (st 3),fdBody (st 3),fdScope (st 3),(st 3).pos⟩:DefItem)∈topDefs:=List.mem_of_getElem? (i:=20) (by kernel_rfl)
theorem mem_4:(⟨Str.ofString "_int2digits",fdArgs (st 4),fdBody (st 4),fdScope (st 4),(st 4).pos⟩:DefItem)∈topDefs:=List.mem_of_getElem? (i:=19) (by kernel_rfl)
theorem mem_5:(⟨Str.ofString "_digits2int",fdArgs (st 5),fdBody (st 5),fdScope (st 5),(st 5).pos⟩:DefItem)∈topDefs:=List.mem_of_getElem? (i:=18) (by kernel_rfl)
theorem mem_6:(⟨Str.ofString "_divmod_pos",fdArgs (st 6),fdBody (st 6),fdScope (st 6),(st 6).pos⟩:DefItem)∈topDefs:=List.mem_of_getElem? (i:=17) (by kernel_rfl)
theorem mem_7:(⟨Str.ofString "int_divmod",fdArgs (st 7),fdBody (st 7),fdScope (st 7),(st 7).pos⟩:DefItem)∈topDefs:=List.mem_of_getElem? (i:=16) (by kernel_rfl)
theorem mem_9:(⟨Str.ofString "_iter_escaped_chars",fdArgs (st 9),fdBody (st 9),fdScope (st 9),(st 9).pos⟩:DefItem)∈topDefs:=List.mem_of_getElem? (i:=15) (by kernel_rfl)
theorem mem_10:(⟨Str.ofString "_strip_quoted_realnames",fdArgs (st 10),fdBody (st 10),fdScope (st 10),(st 10).pos⟩:DefItem)∈topDefs:=List.mem_of_getElem? (i:=14) (by kernel_rfl)
theorem mem_13:(⟨Str.ofString "in_table_b1",fdArgs (st 13),fdBody (st 13),fdScope (st 13),(st 13).pos⟩:DefItem)∈topDefs:=List.mem_of_getElem? (i:=13) (by kernel_rfl)
theorem mem_15:(⟨Str.ofString "map_table_b3",fdArgs (st 15),fdBody (st 15),fdScope (st 15),(st 15).pos⟩:DefItem)∈topDefs:=List.mem_of_getElem? (i:=12) (by kernel_rfl)
theorem mem_20:(⟨Str.ofString "_substitution_cost",fdArgs (st 20),fdBody (st 20),fdScope (st 20),(st 20).pos⟩:DefItem)∈topDefs:=List.mem_of_getElem? (i:=11) (by kernel_rfl)
theorem mem_21:(⟨Str.ofString "_levenshtein_distance",fdArgs (st 21),fdBody (st 21),fdScope (st 21),(st 21).pos⟩:DefItem)∈topDefs:=List.mem_of_getElem? (i:=10) (by kernel_rfl)
theorem mem_23:(⟨Str.ofString "_law_cells",fdArgs (st 23),fdBody (st 23),fdScope (st 23),(st 23).pos⟩:DefItem)∈topDefs:=List.mem_of_getElem? (i:=9) (by kernel_rfl)
theorem mem_24:(⟨Str.ofString "_law_word",fdArgs (st 24),fdBody (st 24),fdScope (st 24),(st 24).pos⟩:DefItem)∈topDefs:=List.mem_of_getElem? (i:=8) (by kernel_rfl)
theorem mem_25:(⟨Str.ofString "_law_typed",fdArgs (st 25),fdBody (st 25),fdScope (st 25),(st 25).pos⟩:DefItem)∈topDefs:=List.mem_of_getElem? (i:=7) (by kernel_rfl)
theorem mem_26:(⟨Str.ofString "_law_line",fdArgs (st 26),fdBody (st 26),fdScope (st 26),(st 26).pos⟩:DefItem)∈topDefs:=List.mem_of_getElem? (i:=6) (by kernel_rfl)
theorem mem_27:(⟨Str.ofString "_law_entry",fdArgs (st 27),fdBody (st 27),fdScope (st 27),(st 27).pos⟩:DefItem)∈topDefs:=List.mem_of_getElem? (i:=5) (by kernel_rfl)
theorem mem_28:(⟨Str.ofString "_law_cleared",fdArgs (st 28),fdBody (st 28),fdScope (st 28),(st 28).pos⟩:DefItem)∈topDefs:=List.mem_of_getElem? (i:=4) (by kernel_rfl)
theorem mem_29:(⟨Str.ofString "_law_rings",fdArgs (st 29),fdBody (st 29),fdScope (st 29),(st 29).pos⟩:DefItem)∈topDefs:=List.mem_of_getElem? (i:=3) (by kernel_rfl)
theorem mem_30:(⟨Str.ofString "_law_table",fdArgs (st 30),fdBody (st 30),fdScope (st 30),(st 30).pos⟩:DefItem)∈topDefs:=List.mem_of_getElem? (i:=2) (by kernel_rfl)
theorem mem_31:(⟨Str.ofString "_law_due",fdArgs (st 31),fdBody (st 31),fdScope (st 31),(st 31).pos⟩:DefItem)∈topDefs:=List.mem_of_getElem? (i:=1) (by kernel_rfl)
theorem mem_32:(⟨Str.ofString "law",fdArgs (st 32),fdBody (st 32),fdScope (st 32),(st 32).pos⟩:DefItem)∈topDefs:=List.mem_of_getElem? (i:=0) (by kernel_rfl)
theorem memc_0:((Str.ofString "_CASE_COST",PyData.int 1):Str×PyData)∈topConsts:=List.mem_of_getElem? (i:=0) (by kernel_rfl)
theorem memc_1:((Str.ofString "_MOVE_COST",PyData.int 2):Str×PyData)∈topConsts:=List.mem_of_getElem? (i:=1) (by kernel_rfl)
theorem memc_2:((Str.ofString "_MAX_STRING_SIZE",PyData.int 40):Str×PyData)∈topConsts:=List.mem_of_getElem? (i:=2) (by kernel_rfl)
theorem memc_3:((Str.ofString "_DIV_LIMIT",PyData.int 4000):Str×PyData)∈topConsts:=List.mem_of_getElem? (i:=3) (by kernel_rfl)
theorem bg_len (P:Params):(boot_heap P).nsMap mainGlobals (Str.ofString "len")=none:=by kernel_rfl
theorem bb_len (P:Params):(boot_heap P).nsMap builtinsNs (Str.ofString "len")=some (.builtin "len"):=by kernel_rfl
theorem bn_len:Str.ofString "len" ∉topNames:=fun h=>absurd (List.contains_iff_mem.mpr h) (by rw[show topNames.contains (Str.ofString "len")=false from by kernel_rfl];decide)
theorem bq_len:Str.ofString "len" ≠Str.ofString "__name__" :=by decide+kernel
theorem bg_ord (P:Params):(boot_heap P).nsMap mainGlobals (Str.ofString "ord")=none:=by kernel_rfl
theorem bb_ord (P:Params):(boot_heap P).nsMap builtinsNs (Str.ofString "ord")=some (.builtin "ord"):=by kernel_rfl
theorem bn_ord:Str.ofString "ord" ∉topNames:=fun h=>absurd (List.contains_iff_mem.mpr h) (by rw[show topNames.contains (Str.ofString "ord")=false from by kernel_rfl];decide)
theorem bq_ord:Str.ofString "ord" ≠Str.ofString "__name__" :=by decide+kernel
theorem bg_chr (P:Params):(boot_heap P).nsMap mainGlobals (Str.ofString "chr")=none:=by kernel_rfl
theorem bb_chr (P:Params):(boot_heap P).nsMap builtinsNs (Str.ofString "chr")=some (.builtin "chr"):=by kernel_rfl
theorem bn_chr:Str.ofString "chr" ∉topNames:=fun h=>absurd (List.contains_iff_mem.mpr h) (by rw[show topNames.contains (Str.ofString "chr")=false from by kernel_rfl];decide)
theorem bq_chr:Str.ofString "chr" ≠Str.ofString "__name__" :=by decide+kernel
theorem bg_divmod (P:Params):(boot_heap P).nsMap mainGlobals (Str.ofString "divmod")=none:=by kernel_rfl
theorem bb_divmod (P:Params):(boot_heap P).nsMap builtinsNs (Str.ofString "divmod")=some (.builtin "divmod"):=by kernel_rfl
theorem bn_divmod:Str.ofString "divmod" ∉topNames:=fun h=>absurd (List.contains_iff_mem.mpr h) (by rw[show topNames.contains (Str.ofString "divmod")=false from by kernel_rfl];decide)
theorem bq_divmod:Str.ofString "divmod" ≠Str.ofString "__name__" :=by decide+kernel
theorem bg_min (P:Params):(boot_heap P).nsMap mainGlobals (Str.ofString "min")=none:=by kernel_rfl
theorem bb_min (P:Params):(boot_heap P).nsMap builtinsNs (Str.ofString "min")=some (.builtin "min"):=by kernel_rfl
theorem bn_min:Str.ofString "min" ∉topNames:=fun h=>absurd (List.contains_iff_mem.mpr h) (by rw[show topNames.contains (Str.ofString "min")=false from by kernel_rfl];decide)
theorem bq_min:Str.ofString "min" ≠Str.ofString "__name__" :=by decide+kernel
theorem bg_range (P:Params):(boot_heap P).nsMap mainGlobals (Str.ofString "range")=none:=by kernel_rfl
theorem bb_range (P:Params):(boot_heap P).nsMap builtinsNs (Str.ofString "range")=some (.type "range"):=by kernel_rfl
theorem bn_range:Str.ofString "range" ∉topNames:=fun h=>absurd (List.contains_iff_mem.mpr h) (by rw[show topNames.contains (Str.ofString "range")=false from by kernel_rfl];decide)
theorem bq_range:Str.ofString "range" ≠Str.ofString "__name__" :=by decide+kernel
theorem bg_list (P:Params):(boot_heap P).nsMap mainGlobals (Str.ofString "list")=none:=by kernel_rfl
theorem bb_list (P:Params):(boot_heap P).nsMap builtinsNs (Str.ofString "list")=some (.type "list"):=by kernel_rfl
theorem bn_list:Str.ofString "list" ∉topNames:=fun h=>absurd (List.contains_iff_mem.mpr h) (by rw[show topNames.contains (Str.ofString "list")=false from by kernel_rfl];decide)
theorem bq_list:Str.ofString "list" ≠Str.ofString "__name__" :=by decide+kernel
theorem bg_reversed (P:Params):(boot_heap P).nsMap mainGlobals (Str.ofString "reversed")=none:=by kernel_rfl
theorem bb_reversed (P:Params):(boot_heap P).nsMap builtinsNs (Str.ofString "reversed")=some (.type "reversed"):=by kernel_rfl
theorem bn_reversed:Str.ofString "reversed" ∉topNames:=fun h=>absurd (List.contains_iff_mem.mpr h) (by rw[show topNames.contains (Str.ofString "reversed")=false from by kernel_rfl];decide)
theorem bq_reversed:Str.ofString "reversed" ≠Str.ofString "__name__" :=by decide+kernel
theorem bg_enumerate (P:Params):(boot_heap P).nsMap mainGlobals (Str.ofString "enumerate")=none:=by kernel_rfl
theorem bb_enumerate (P:Params):(boot_heap P).nsMap builtinsNs (Str.ofString "enumerate")=some (.type "enumerate"):=by kernel_rfl
theorem bn_enumerate:Str.ofString "enumerate" ∉topNames:=fun h=>absurd (List.contains_iff_mem.mpr h) (by rw[show topNames.contains (Str.ofString "enumerate")=false from by kernel_rfl];decide)
theorem bq_enumerate:Str.ofString "enumerate" ≠Str.ofString "__name__" :=by decide+kernel
noncomputable def F3L (k:Int):Option Str:=(b3L.find? fun p=>p.1=k).map (·.2)
theorem vals_look {l:List (Int×Str)} {m:List (Int×Value)} (h:Vals l m) (k:Int):StrAt ((l.find? fun p=>p.1=k).map (·.2)) (valueAt m k):=by
 induction h with
 |nil=>exact .none
 | @cons i x t l m h ih=>
  unfold valueAt at ih⊢
  rw[List.find?_cons,List.find?_cons]
  cases decide (i=k) with
  |true=>exact .some x t
  |false=>exact ih
theorem int_datum {v:Value} {i:Int} (h:IsDatum v (.int i)): ∃t,v= .int i t:=by
 have:=h {}
 cases this
 exact ⟨_,rfl⟩
section
variable {w:World} {s s₁:Shared} {h₂:Heap} {P4 P5:Addr} {os:OsState} {a:Addr} {ns:List Int}
theorem two_in {b P4 P5:Addr} {P:Addr→Prop} (hb:b∈[P4,P5]) (h4:P P4) (h5:P P5):P b:=(List.mem_cons.mp hb).elim (fun e=>e▸h4) fun hb=>List.mem_singleton.mp hb▸h5
structure TabsAt (h₂:Heap) (P4 P5:Addr):Prop where
 h4:h₂.get? P4=some (tabObj #[])
 h5:h₂.get? P5=some (tabObj #[])
theorem TabsAt.not (X:TabsAt h₂ P4 P5) {b:Addr} {o:Obj} (e:h₂.get? b=some o) (hd:o.data≠ .fields #[]):b∉[P4,P5]:=fun hb=>
 two_at e (two_in (P:=fun b=>h₂.get? b=some (tabObj #[])) hb X.h4 X.h5) fun q=>hd (congrArg Obj.data q)
theorem code_of (keeps: ∀b o,s₁.heap.get? b=some o→h₂.get? b=some o) (X:TabsAt h₂ P4 P5) {c:Addr} {q:Str} (h:s₁.heap.CodeRec (.ref c) q):CodeOk (mkC w h₂ P4 P5 os a ns) (.ref c) q:=
 h.elim fun c' h=>h.elim fun o h=>h.elim fun vs h=>h.elim fun t h=>⟨c',o,vs,t,h.1,keeps _ _ h.2.1,X.not (keeps _ _ h.2.1) (fun z=>by
  have e:=h.2.2.2
  cases Data.fields.inj (h.2.2.1.symm.trans z)
  cases e),h.2.2.1,h.2.2.2⟩
theorem fn_of (L:Left w s s₁) (keeps: ∀b o,s₁.heap.get? b=some o→h₂.get? b=some o) (X:TabsAt h₂ P4 P5) {name:Str} {n:Nat}
  (hm:(⟨name,fdArgs (st n),fdBody (st n),fdScope (st n),(st n).pos⟩:DefItem)∈topDefs): ∃b,FnAt (mkC w h₂ P4 P5 os a ns) L.mg name n b:=by
 obtain ⟨b,c',o,pm,doc,_,_,h1,h2,h3,h4⟩:=(L.mod.made _ hm).plain (df_of hm)
 exact ⟨b,h1,⟨o,pm,.ref c',doc,keeps _ _ h2,h3,code_of keeps X h4⟩,X.not (keeps _ _ h2) (fun z=>nomatch h3.symm.trans z)⟩
inductive NestIn (s₁:Shared) (mg:Str→Option Value) (name:Str) (n:Nat) (P:Addr):Prop
 |mk (b:Addr) (o:Obj) (pm:Value) (c:Addr) (doc:Value) (g:mg name=some (.ref b)) (e:s₁.heap.get? b=some o) (d:o.data= .func (docDef name (fdArgs (st n)) (fdBody (st n)) (fdScope (st n)) pm (.ref c) doc)) (r:s₁.heap.CodeRec (.ref c) name) (hd:CodeHd s₁.heap c P) (t:s₁.heap.get? P=some (tabObj #[])) (ng:mainGlobals≠P):NestIn s₁ mg name n P
theorem nest_of (L:Left w s s₁) {name:Str} {n:Nat} (hm:(⟨name,fdArgs (st n),fdBody (st n),fdScope (st n),(st n).pos⟩:DefItem)∈topDefs): ∃P,NestIn s₁ L.mg name n P:=by
 obtain ⟨b',o',fd,c'',P',k1,k2,k3,k4,k5,k6,k7,k8,k9⟩:=L.mod.tabs _ hm
 obtain ⟨b,c',o,pm,doc,_,_,h1,h2,h3,h4⟩:=(L.mod.made _ hm).plain (df_of hm)
 cases Value.ref.inj (Option.some.inj (h1.symm.trans k1))
 cases Option.some.inj (h2.symm.trans k2)
 cases Data.func.inj (h3.symm.trans k3)
 cases Value.ref.inj k4
 exact ⟨P',_,_,pm,_,doc,h1,h2,h3,h4,CodeHd.of k8 k9,k9.2,Nat.ne_of_lt (Nat.lt_of_lt_of_le L.mod.lowG k7)⟩
theorem hd_move {h h':Heap} {c P:Addr} (x:CodeHd h c P) (k: ∀o,h.get? c=some o→h'.get? c=some o):CodeHd h' c P:=
 x.imp fun o x=>x.imp fun vs x=>x.imp fun file x=>x.imp fun tf x=>x.imp fun flags x=>x.imp fun tg x=>x.imp fun inF x=>x.imp fun text x=>x.imp fun tt x=>⟨k _ x.1,x.2⟩
theorem hd_table {h:Heap} {c P:Addr} (x:CodeHd h c P):isCodeTable h P:=by
 obtain ⟨o,vs,file,tf,flags,tg,inF,text,tt,e,e1,e2,e3,_⟩:=x
 exact ⟨c,o,vs,e,e1,e2,e3⟩
theorem bu_of (L:Left w s s₁) (keeps: ∀b o,s₁.heap.get? b=some o→h₂.get? b=some o) (X:TabsAt h₂ P4 P5) {P:Addr} (hP:P∈[P4,P5]): ∀h:Heap,(∀b o,h₂.get? b=some o→b∉[P4,P5]→h.get? b=some o)→h.BuiltinsAt L.mg P:=by
 intro h k
 obtain ⟨bm,o,e1,e2,e3,e4,e5,e6,e7,e8⟩:=L.mod.main.bmod
 have hn:bm∉[P4,P5]:=X.not (keeps _ _ e5) (fun z=>nomatch e8.symm.trans z)
 exact ⟨bm,o,e1,e2,e3,fun z=>hn (z▸hP),k _ _ (keeps _ _ e5) hn,e6,e7,e8⟩
theorem ns_of (keeps: ∀b o,s₁.heap.get? b=some o→h₂.get? b=some o) (X:TabsAt h₂ P4 P5) {b:Addr} {m:Str→Option Value} (h:s₁.heap.Ns b m):b∉[P4,P5]∧ ∀h:Heap,(∀b o,h₂.get? b=some o→b∉[P4,P5]→h.get? b=some o)→h.Ns b m:=
 have n:=ns_at h fun o es ep e d=>X.not (keeps _ _ e) fun z=>nomatch d.symm.trans z
 ⟨n,fun h' k=>h.imp fun o z=>z.imp fun es z=>z.imp fun ep z=>z.imp_left fun e=>k _ _ (keeps _ _ e) n⟩
theorem glob_m (B:Boots w s) (L:Left w s s₁) {x:Str} (h1:x∉topNames) (h2:x≠Str.ofString "__name__") (h3:(boot_heap w.params).nsMap mainGlobals x=none):L.mg x=none:=(L.glob h1 h2).trans (by rw[B.heap];exact h3)
theorem blt_m (B:Boots w s) {x:Str} {v:Value} (h:(boot_heap w.params).nsMap builtinsNs x=some v):s.heap.nsMap builtinsNs x=some v:=by rw[B.heap];exact h
theorem ns_boot (B:Boots w s) {x:Addr} (h:(boot_heap w.params).isNs x=true):s.heap.Ns x (s.heap.nsMap x):=Heap.Ns.of_isNs (by rw[B.heap];exact h)
theorem const_m (L:Left w s s₁) {x:Str} {i:Int} (h:((x,PyData.int i):Str×PyData)∈topConsts): ∃t,L.mg x=some (.int i t):=by
 obtain ⟨v,hv,hd⟩:=L.mod.bound _ h
 obtain ⟨t,rfl⟩:=int_datum hd
 exact ⟨t,hv⟩
theorem sys_m (B:Boots w s): ∃o,s.heap.get? sysModules=some o:=(b_sys w.params).imp fun o h=>by rw[B.heap];exact h
noncomputable def wkD (B:Boots w s) (L:Left w s s₁) (keeps: ∀b o,s₁.heap.get? b=some o→h₂.get? b=some o) (X:TabsAt h₂ P4 P5) (Z:ScrOk (mkC w h₂ P4 P5 os a ns)):Wk (mkC w h₂ P4 P5 os a ns) where
 K:=mkC_ok X.h4 X.h5
 T0:=have c:=ns_of keeps X (L.keepN (a:=cStatics) (by decide) (ns_boot B (b_c _)));⟨⟨_,c.2 h₂ (fun _ _ e _=>e),by rw[B.heap];exact b_lim _⟩,c.1⟩
 Z:=Z
 mg:=L.mg
 mb:=s.heap.nsMap builtinsNs
 gl:=fun h k=>⟨(ns_of keeps X L.mod.main.g).2 h k,(ns_of keeps X (L.keepN (a:=builtinsNs) (by decide) (ns_boot B (b_b _)))).2 h k⟩
 mods:=(sys_m B).imp fun o h=>keeps _ _ (L.keep (b:=sysModules) (by decide) h)
 modn:=(ns_of keeps X (L.keepN (a:=sysModules) (by decide) (ns_boot B (by kernel_rfl)))).1
 m_len:=glob_m B L bn_len bq_len (bg_len _)
 b_len:=blt_m B (bb_len _)
 m_ord:=glob_m B L bn_ord bq_ord (bg_ord _)
 b_ord:=blt_m B (bb_ord _)
 m_chr:=glob_m B L bn_chr bq_chr (bg_chr _)
 b_chr:=blt_m B (bb_chr _)
 m_divmod:=glob_m B L bn_divmod bq_divmod (bg_divmod _)
 b_divmod:=blt_m B (bb_divmod _)
 m_min:=glob_m B L bn_min bq_min (bg_min _)
 b_min:=blt_m B (bb_min _)
 m_range:=glob_m B L bn_range bq_range (bg_range _)
 b_range:=blt_m B (bb_range _)
 m_list:=glob_m B L bn_list bq_list (bg_list _)
 b_list:=blt_m B (bb_list _)
 m_reversed:=glob_m B L bn_reversed bq_reversed (bg_reversed _)
 b_reversed:=blt_m B (bb_reversed _)
 m_enumerate:=glob_m B L bn_enumerate bq_enumerate (bg_enumerate _)
 b_enumerate:=blt_m B (bb_enumerate _)
 t__CASE_COST:=(const_m L memc_0).choose
 g__CASE_COST:=(const_m L memc_0).choose_spec
 t__MOVE_COST:=(const_m L memc_1).choose
 g__MOVE_COST:=(const_m L memc_1).choose_spec
 t__MAX_STRING_SIZE:=(const_m L memc_2).choose
 g__MAX_STRING_SIZE:=(const_m L memc_2).choose_spec
 t__DIV_LIMIT:=(const_m L memc_3).choose
 g__DIV_LIMIT:=(const_m L memc_3).choose_spec
 a__div2n1n:=(fn_of L keeps X mem_2).choose
 f__div2n1n:=(fn_of L keeps X mem_2).choose_spec
 a__div3n2n:=(fn_of L keeps X mem_3).choose
 f__div3n2n:=(fn_of L keeps X mem_3).choose_spec
 a__int2digits:=(fn_of L keeps X mem_4).choose
 f__int2digits:=(fn_of L keeps X mem_4).choose_spec
 a__digits2int:=(fn_of L keeps X mem_5).choose
 f__digits2int:=(fn_of L keeps X mem_5).choose_spec
 a__divmod_pos:=(fn_of L keeps X mem_6).choose
 f__divmod_pos:=(fn_of L keeps X mem_6).choose_spec
 a_int_divmod:=(fn_of L keeps X mem_7).choose
 f_int_divmod:=(fn_of L keeps X mem_7).choose_spec
 a__iter_escaped_chars:=(fn_of L keeps X mem_9).choose
 f__iter_escaped_chars:=(fn_of L keeps X mem_9).choose_spec
 a__strip_quoted_realnames:=(fn_of L keeps X mem_10).choose
 f__strip_quoted_realnames:=(fn_of L keeps X mem_10).choose_spec
 a_in_table_b1:=(fn_of L keeps X mem_13).choose
 f_in_table_b1:=(fn_of L keeps X mem_13).choose_spec
 a_map_table_b3:=(fn_of L keeps X mem_15).choose
 f_map_table_b3:=(fn_of L keeps X mem_15).choose_spec
 a__substitution_cost:=(fn_of L keeps X mem_20).choose
 f__substitution_cost:=(fn_of L keeps X mem_20).choose_spec
 a__levenshtein_distance:=(fn_of L keeps X mem_21).choose
 f__levenshtein_distance:=(fn_of L keeps X mem_21).choose_spec
 a__law_cells:=(fn_of L keeps X mem_23).choose
 f__law_cells:=(fn_of L keeps X mem_23).choose_spec
 a__law_word:=(fn_of L keeps X mem_24).choose
 f__law_word:=(fn_of L keeps X mem_24).choose_spec
 a__law_typed:=(fn_of L keeps X mem_25).choose
 f__law_typed:=(fn_of L keeps X mem_25).choose_spec
 a__law_line:=(fn_of L keeps X mem_26).choose
 f__law_line:=(fn_of L keeps X mem_26).choose_spec
 a__law_entry:=(fn_of L keeps X mem_27).choose
 f__law_entry:=(fn_of L keeps X mem_27).choose_spec
 a__law_cleared:=(fn_of L keeps X mem_28).choose
 f__law_cleared:=(fn_of L keeps X mem_28).choose_spec
 a__law_rings:=(fn_of L keeps X mem_29).choose
 f__law_rings:=(fn_of L keeps X mem_29).choose_spec
 a__law_table:=(fn_of L keeps X mem_30).choose
 f__law_table:=(fn_of L keeps X mem_30).choose_spec
 a__law_due:=(fn_of L keeps X mem_31).choose
 f__law_due:=(fn_of L keeps X mem_31).choose_spec
 a_law:=(fn_of L keeps X mem_32).choose
 f_law:=(fn_of L keeps X mem_32).choose_spec
theorem set_data {K:Type} [DecidableEq K] {prog:Program} {w:World} {knd:PySem.KeyKind prog w K} {h:Heap} {A:Addr} {S:K→Bool} {n:Nat} (x:h.SetOf knd A S n) {o:Obj} (e:h.get? A=some o) (z:o.data= .fields #[]):False:=
 x.elim fun o' x=>x.elim fun es x=>x.elim fun ep x=>x.elim fun t x=>data_at e x.1 z x.2.2.1 fun q=>nomatch q
theorem dict_data {K:Type} [DecidableEq K] {prog:Program} {w:World} {knd:PySem.KeyKind prog w K} {h:Heap} {A:Addr} {l:List (K×Value)} (x:h.DictOf knd A l) {o:Obj} (e:h.get? A=some o) (z:o.data= .fields #[]):False:=
 x.elim fun o' x=>x.elim fun es x=>x.elim fun ep x=>data_at e x.1 z x.2.2.1 fun q=>nomatch q
theorem wt_of (B:Boots w s) (L:Left w s s₁) (keeps: ∀b o,s₁.heap.get? b=some o→h₂.get? b=some o) (X:TabsAt h₂ P4 P5) (Z:ScrOk (mkC w h₂ P4 P5 os a ns)): ∃T:Wt (mkC w h₂ P4 P5 os a ns) (wkD B L keeps X Z),T.S1=setIn b1L∧T.F3=F3L:=by
 obtain ⟨A3,O3,z1,z2,z3,z4⟩:=L.mod.held (Str.ofString "b3_exceptions",objDict w) List.mem_cons_self
 obtain ⟨A1,O1,y1,y2,y3,y4⟩:=L.mod.held (Str.ofString "b1_set",objSet w) (List.mem_cons_of_mem _ List.mem_cons_self)
 exact (y4 h₂ A1 (keeps _ _ y3)).elim fun n1 S1=>(z4 h₂ A3 (keeps _ _ z3)).elim fun kvs D3=>
  ⟨⟨A1,y2,X.not (keeps _ _ y3) (set_data S1 (keeps _ _ y3)),setIn b1L,⟨n1,S1⟩,A3,z2,X.not (keeps _ _ z3) (dict_data D3.1 (keeps _ _ z3)),beq_eq_false_iff_ne.mpr fun z=>(sys_m B).elim fun so hso=>absurd (Heap.lt_size (L.grow _ _ hso)) (Nat.not_lt.mpr (z▸z1)),F3L,⟨_,D3.1.mapOf,fun k=>vals_look D3.2 k⟩⟩,rfl,rfl⟩
theorem nest_fin (L:Left w s s₁) (keeps: ∀b o,s₁.heap.get? b=some o→h₂.get? b=some o) (X:TabsAt h₂ P4 P5) {name qual:Str} {pos:Pos} {n:Nat} {P a':Addr} (N:NestIn s₁ L.mg name n P) (hP:P∈[P4,P5]) (F:FnAt (mkC w h₂ P4 P5 os a ns) L.mg name n a')
  (ok: ∀h,(mkC w h₂ P4 P5 os a ns).tabOk h→ ∃ps,h.get? P=some (tabObj ps)∧TriplesOk ps.toList∧ ∀cv,codeAmong pos ps.toList=some cv→ ∃c',cv= .ref c'∧h₂.get? c'=none∧h.CodeRec cv qual)
  (grown: ∀h h' ps c',(mkC w h₂ P4 P5 os a ns).tabOk h→TriplesOk ps.toList→h.get? P=some (tabObj ps)→Heap.ExtBut P h h'→h₂.get? c'=none→h'.CodeRec (.ref c') qual→codeAmong pos ps.toList=none→h'.get? P=some (tabObj (ps++ #[rawInt pos.line,rawInt pos.col,.ref c']))→(mkC w h₂ P4 P5 os a ns).tabOk h'):
  FnNest (mkC w h₂ P4 P5 os a ns) L.mg name n a' qual pos:=
 ⟨F.g,N.casesOn fun b o pm c doc g e d r hd t ng=>by
  cases Value.ref.inj (Option.some.inj (g.symm.trans F.g))
  have k:CodeOk (mkC w h₂ P4 P5 os a ns) (.ref c) name:=code_of keeps X r
  exact ⟨o,pm,c,P,doc,keeps _ _ e,d,k,⟨fun h' kk=>hd_move hd fun o e=>kk _ _ (keeps _ _ e) (k.casesOn fun c' o vs t e1 e2 e3 e4 e5=>Value.ref.inj e1▸e3),bu_of L keeps X hP,hP,ng,ok,
   fun h h' ps c' hx e x hb hr hn e'=>grown h h' ps c' hx ((ok h hx).elim fun ps' z=>two_at e z.1 fun q=>by cases q;exact z.2.1) e x hb hr hn e'⟩⟩,F.nt⟩
theorem wk_of (B:Boots w s) (L:Left w s s₁) (keeps: ∀b o,s₁.heap.get? b=some o→h₂.get? b=some o) (os:OsState) {a:Addr} {ns:List Int} {items:Array Value} {n:Nat}
  (ha:h₂.get? a=some {cls:= .type "list",dict:=none,data:= .seq items n,slots:= #[]}) (hi: ∀(C:Ctx) h,RelVs C h (ns.map V.int) items.toList):
  ∃(P4 P5:Addr) (W:Wk (mkC w h₂ P4 P5 os a ns)) (T:Wt (mkC w h₂ P4 P5 os a ns) W),T.S1=setIn b1L∧T.F3=F3L∧Wn (mkC w h₂ P4 P5 os a ns) W∧W.mg=L.mg∧(mkC w h₂ P4 P5 os a ns).tabOk h₂∧(∀b∈[P4,P5],isCodeTable h₂ b∧h₂.get? b=some (tabObj #[])):=
 (nest_of L mem_4).elim fun P4 N4=>(nest_of L mem_5).elim fun P5 N5=>
  have t4:isCodeTable h₂ P4∧h₂.get? P4=some (tabObj #[]):=N4.casesOn fun b o pm c doc g e d r hd t ng=>⟨hd_table (hd_move hd fun o e=>keeps _ _ e),keeps _ _ t⟩
  have t5:isCodeTable h₂ P5∧h₂.get? P5=some (tabObj #[]):=N5.casesOn fun b o pm c doc g e d r hd t ng=>⟨hd_table (hd_move hd fun o e=>keeps _ _ e),keeps _ _ t⟩
  have X:TabsAt h₂ P4 P5:=⟨t4.2,t5.2⟩
  have Z:ScrOk (mkC w h₂ P4 P5 os a ns):=⟨⟨items,n,ha,X.not ha nofun,hi _ _⟩⟩
  (wt_of B L keeps X Z).elim fun T e=>⟨P4,P5,wkD B L keeps X Z,T,e.1,e.2,
   ⟨nest_fin L keeps X N4 List.mem_cons_self (wkD B L keeps X Z).f__int2digits (fun h hx=>hx.1.imp fun ps z=>⟨z.1,z.2.1,z.2.2.1⟩) fun h h' ps c' hx tr e x hb hr hn e'=>⟨hx.1.grow4 e tr x hb hr hn e',hx.2.grow4 e tr x hb hr hn e'⟩,
    nest_fin L keeps X N5 (List.mem_cons_of_mem _ List.mem_cons_self) (wkD B L keeps X Z).f__digits2int (fun h hx=>hx.2.imp fun ps z=>⟨z.1,z.2.1,z.2.2.2⟩) fun h h' ps c' hx tr e x hb hr hn e'=>⟨hx.1.grow5 e tr x hb hr hn e',hx.2.grow5 e tr x hb hr hn e'⟩⟩,
   rfl,⟨oneT_new X.h4,oneT_new X.h5⟩,fun b hb=>two_in (P:=fun b=>isCodeTable h₂ b∧h₂.get? b=some (tabObj #[])) hb t4 t5⟩
end
end
section
open PySem PySem.Spec PySem.Calls PyProof.Rows PySem.W
noncomputable abbrev rwl:OpenLaw:=PySem.Challenge.rw_uc0050_01
theorem filt3 {α:Type} {f:α→Bool} {a b c:α} (h1:f a=false) (h2:f b=false) (h3:f c=false):[a,b,c].filter f=[]:=by
 rw[List.filter_cons_of_neg (by rw[h1];decide),List.filter_cons_of_neg (by rw[h2];decide),List.filter_cons_of_neg (by rw[h3];decide)];rfl
theorem rdo1:readsOut pw pw.main.body "vars" =false:=(congrFun (congrFun (congrFun Fast.te13343964577679436407 _) _) _).trans (by kernel_rfl)
theorem rdo2:readsOut pw pw.main.body "dir" =false:=(congrFun (congrFun (congrFun Fast.te13343964577679436407 _) _) _).trans (by kernel_rfl)
theorem rdo3:readsOut pw pw.main.body "locals" =false:=(congrFun (congrFun (congrFun Fast.te13343964577679436407 _) _) _).trans (by kernel_rfl)
theorem lksO:looksOpen pw=true:=by
 unfold looksOpen
 rw[filt3 rdo1 rdo2 rdo3]
 refine look_both (look_both (look_both (look_both (look_both ?_ ?_) ?_) ?_) ?_) ?_
 ·decide+kernel
 ·decide+kernel
 ·rw[Fast.te8377067652309620493];decide+kernel
 ·decide+kernel
 ·rw[Fast.te8326940854005059898];decide+kernel
 ·rw[Fast.te17119622794617984870];decide+kernel
theorem lksP:rwl.row.partSaid=true:=by
 unfold OpenRow.partSaid
 refine look_both (look_both (look_both (look_both (look_both (look_both (look_both (look_both (look_both (look_both (look_both (look_both (look_both lksO ?_) ?_) ?_) ?_) ?_) ?_) ?_) ?_) ?_) ?_) ?_) ?_) ?_
 all_goals decide+kernel
theorem lksR:rwl.row.wellSaid=true:=by
 unfold OpenRow.wellSaid
 refine look_both (look_both lksP ?_) ?_
 all_goals decide+kernel
theorem law_said:rwl.wellSaid=true:=by
 unfold OpenLaw.wellSaid
 refine look_both (look_both (look_both (look_both (look_both (look_both (look_both (look_both (look_both (look_both (look_both (look_both (look_both (look_both (look_both (look_both (look_both (look_both lksR ?_) ?_) ?_) ?_) ?_) ?_) ?_) ?_) ?_) ?_) ?_) ?_) ?_) ?_) ?_) ?_) ?_) ?_
 ·decide+kernel
 ·decide+kernel
 ·decide+kernel
 ·decide+kernel
 ·decide+kernel
 ·rw[Fast.te8326940854005059898];decide+kernel
 ·decide+kernel
 ·decide+kernel
 ·decide+kernel
 ·decide+kernel
 ·decide+kernel
 ·decide+kernel
 ·decide+kernel
 ·decide+kernel
 ·decide+kernel
 ·decide+kernel
 ·decide+kernel
 ·decide+kernel
theorem law_holds (hrow:rwl.row.wellSaid=true→rwl.row.Holds):rwl.Holds:=holds_law law_said hrow
theorem opens1:opensWell pw=true:=by kernel_rfl
theorem whole1:pw.tablesWhole=true:=by kernel_rfl
theorem bare1:pw.bare:=⟨rfl,rfl,rfl,rfl,rfl,whole1⟩
end
section
open PySem PySem.Spec PySem.Calls PyProof.Rows PySem.W
noncomputable abbrev rrow:RowW:=rwl.row.toRowW
theorem promised1:rrow.promised:=⟨[WData.list []],by kernel_rfl,by kernel_rfl⟩
theorem frees1:(frees rrow&&rrow.within.isEmpty)=true:=by kernel_rfl
theorem theDef1:pw.theDef (Str.ofString "law")=some (fdArgs (st 32),fdBody (st 32),fdScope (st 32)):=by kernel_rfl
theorem pin1 {w:World} {s s₁:Shared} (L:Left w s s₁):isTheDefsW pw s₁.heap (Str.ofString "law"):=by
 obtain ⟨b,c',o,pm,doc,_,_,h1,h2,h3,h4⟩:=(L.mod.made _ mem_32).plain (df_of mem_32)
 exact ⟨b,o,_,_,_,_,(glob_of L _).trans h1,h2,h3,theDef1,rfl,rfl,rfl,rfl,rfl,rfl,rfl,rfl,.inl ⟨(df_of mem_32),rfl⟩,[],by kernel_rfl,.inl ⟨rfl,rfl⟩⟩
noncomputable def T_law (scr:List Int):Con:=fun ds Q σ=>ds=[.rl scr]∧ ∀σ',Q (.bool true) σ'
noncomputable def St0:St:=⟨fun _=>none,fun _=>none,fun _=>none⟩
theorem relInts_of {ns:List Int} {vs:List Value} (h:IntsAre vs ns) (C:Ctx) (hp:Heap):RelVs C hp (ns.map V.int) vs:=by
 induction h with
 |nil=>exact RelVs.nil
 |cons i t r ih=>exact RelVs.cons of_int ih
theorem call_law (sound: ∀(C:Ctx) (W:Wk C) (T:Wt C W),C.prog=pw→Wn C W→T.S1=setIn b1L→T.F3=F3L→C.gOk=AllBare→C.scr.length≤63→FnSound C 100 W.a_law (T_law C.scr))
  {w:World} {s s₁ s₂:Shared} (B:Boots w s) (L:Left w s s₁) {args:List WData} {vs:List Value} {as:List Addr} (Ld:Laid rrow.records w s₁ s₂ args vs as) (hpre:rrow.claim.pre args=true) (hlay:WData.layableAll args=true)
  (hwl:WellAll w.params s₂.heap vs args) (hlo: ∀a∈as,(a==sysModules)=false):
  ∃f,L.mg (Str.ofString "law")=some f∧wpAny (model pw w) callerA (PySem.call f vs) (fun v s'=>GoodWG rrow.claim (classAt s₁.heap) (ExcName.means s₁.heap) args s₂ (.ok (.ret v)) s')
     (fun e s'=>GoodWG rrow.claim (classAt s₁.heap) (ExcName.means s₁.heap) args s₂ (.error e) s') s₂:=by
 have hrd:=Ld.reads
 have hgens:=Ld.gens
 wrow_args hpre hlay hrd hwl hlo
 rename_i ns _ _ _ _ _ _ _ a vals _ hL _ _ _ hI _ hlen _
 obtain ⟨n,hob⟩: ∃n,s₂.heap.get? a=some {cls:= .type "list",dict:=none,data:= .seq vals.toArray n,slots:= #[]}:=⟨_,PySem.W.X.script_obj Ld hL⟩
 refine (wk_of B L Ld.keeps s₂.os hob (ns:=ns) (fun C h=>relInts_of hI C h)).elim fun P4 z=>z.elim fun P5 z=>z.elim fun W z=>z.elim fun T z=>?_
 obtain ⟨e1,e2,N,e3,tok,tabs⟩:=z
 have F:=sound _ W T rfl N e1 e2 rfl (by show ns.length≤63;omega)
 refine ⟨.ref W.a_law,by rw[←e3];exact W.f_law.g,wpAny_mono (F callerA St0 s₂ (fun v _=>v= .bool true) [.rl ns] [.ref a] ⟨rfl,by decide,by decide⟩ ⟨⟨fun _ _ e _=>e,tok,rfl⟩,.of_eq hgens,fun b xs e=>nomatch e⟩ (RelVs.cons ⟨rfl,rfl⟩ RelVs.nil) ⟨rfl,fun _=>rfl⟩) (fun v s' p=>p.casesOn fun x σ' r1 r2 r3 _ _ r4=>?_) fun _ _ x=>x.elim⟩
 subst r4
 cases rel_bool r1
 exact ⟨.inl ⟨.bool true,.bool true,[],rfl,fun cls=>rfl,.bool true,by kernel_rfl,fun _=>⟨List.nodup_nil,fun _ h=>nomatch h⟩⟩,⟨fun b o e=>by
  by_cases hb:b∈[P4,P5]
  ·exact (two_in (P:=fun b=>OneT s₂.heap s'.heap b) hb r2.base.tab.1 r2.base.tab.2).elim fun ps q=>two_at e (tabs b hb).2 fun w=>w▸ .inr (.inl ⟨(tabs b hb).1,rfl, #[],ps,rfl,by rw[q.1,Array.empty_append]⟩)
  ·exact .inl (r2.base.keep b o e hb),fun b o e=>r3.there b o e⟩,r2.base.os,r2.bare⟩
end
section
open PySem PySem.Spec PySem.Calls PyProof.Rows PySem.W
theorem law_tree {w:World} {s:Shared} {mg:Str→Option Value} {f:Value} {vs:List Value} {Q:PySem.Fin→Shared→Prop} {E:Value→Shared→Prop} (hg:s.heap.Ns mainGlobals mg) (hf:mg (Str.ofString "law")=some f)
  (h:wpAny (model pw w) callerA (PySem.call f vs) (fun v s'=>Q (.done (.ret v)) s') E s):
  wpAny (model pw w) callerA (do match ←nsGet mainNs (Str.ofString "law") with
   |some f=>do ret (←PySem.call f vs)
   |none=>unsupported "claim.caller:no-such-global") Q E s:=
 wpAny_bind (wpAny_nsGet hg (by rw[hf];exact wpAny_bind (wpAny_mono h (fun _ _ x=>wpAny_pure x) fun _ _ x=>x)))
theorem row_holds (sound: ∀(C:Ctx) (W:Wk C) (T:Wt C W),C.prog=pw→Wn C W→T.S1=setIn b1L→T.F3=F3L→C.gOk=AllBare→C.scr.length≤63→FnSound C 100 W.a_law (T_law C.scr))
  (said:rwl.row.wellSaid=true):rwl.row.Holds:=by
 obtain ⟨hsame,hu,ha,hap,hm⟩:=frees_parts (Bool.and_eq_true_iff.mp frees1).1
 refine ⟨said,promised1,⟨bare1,opens1,rfl⟩,promised1.witness,fun w=>?_⟩
 obtain ⟨s,B⟩:=boots w
 refine ⟨⟨s,B.run⟩,fun s' hs'=>?_⟩
 obtain rfl:s'=s:=AfterImport.unique hs' B.run
 obtain ⟨s₁,hT,hz,hgens,⟨L⟩⟩:=top_ran w B
 have hg:s₁.heap.isNs mainGlobals=true:=by
  obtain ⟨o,es,ep,ho,hd,hk,_⟩:=L.mod.main.g
  delta Heap.isNs
  rw[ho]
  dsimp only
  rw[hd]
  dsimp only
  rw[Array.all_eq_true]
  intro i hi
  obtain ⟨x,t,e⟩:=hk es[i] (Array.getElem_mem hi)
  rw[e]
 refine ⟨s',fence_all s',B.gens,s₁,hT,fun n hn=>?_,fun x hx=>(nomatch hx),fun x hx=>(nomatch hx),?_⟩
 ·obtain rfl:n=Str.ofString "law" :=by
   have:n∈[Str.ofString "law"]:=hn
   simpa using this
  exact pin1 L
 refine ClaimW.callFrom_of_specG (c:=rrow.claim) (tree:=fun vs=>do match ←nsGet mainNs (Str.ofString "law") with
   |some f=>do ret (←PySem.call f vs)
   |none=>unsupported "claim.caller:no-such-global") hz hgens fun args hpre hlay ord hord=>?_
 obtain ⟨⟨vs,s₂⟩,hlaid⟩:=Option.isSome_iff_exists.mp (layAllW_isSome (P:=w.params) (ord:=ord) (R:=rrow.records) (cl:=classAt s₁.heap) (fun c hc=>(nomatch hc)) args rrow.args s₁ (pre_splitW hpre).1)
 have keeps:=layAllW_keeps _ _ _ hlaid
 have hal:=layAllW_rest _ _ _ hlaid
 obtain ⟨as,hrd,hin,hold⟩:=reads_layAllW hord _ _ _ hlaid hlay s₂.heap (fun _ _ e=>e)
 have Ld:Laid rrow.records w s₁ s₂ args vs as:=⟨⟨ord,hord,hlaid⟩,hrd,hin,hold,keeps,hal.1.trans hgens,hal.2.2.1⟩
 obtain ⟨so,hso⟩:=b_sys w.params
 have hso1:=L.keep (b:=sysModules) (by decide) (by rw[B.heap];exact hso)
 obtain ⟨f,hf,h⟩:=call_law sound B L Ld hpre hlay (well_layAllW hord args s₁ _ hlaid _ fun _ _ e=>e) (fun a ha=>beq_eq_false_iff_ne.mpr fun e=>by
  have:=(hin.2.2 a ha).1
  subst e
  exact absurd (Heap.lt_size hso1) (Nat.not_lt.mpr this))
 have hi:=ident_freeW hu ha hap
 refine ⟨vs,s₂,hlaid,?_⟩
 refine law_tree (L.mod.main.g.keeps keeps) hf (wpAny_mono h (fun v s' g=>⟨_,rfl,have z:=g.laid (c:=rrow.claim) hsame rfl hi Ld;⟨z.1,z.2.1,z.2.2,fun q=>(nomatch q)⟩⟩) fun e s' g=>have z:=g.laid (c:=rrow.claim) hsame rfl hi Ld;⟨z.1,z.2.1,z.2.2,fun q=>(nomatch q)⟩)
theorem holds_by (sound: ∀(C:Ctx) (W:Wk C) (T:Wt C W),C.prog=pw→Wn C W→T.S1=setIn b1L→T.F3=F3L→C.gOk=AllBare→C.scr.length≤63→FnSound C 100 W.a_law (T_law C.scr)):PySem.Challenge.rw_uc0050_01.Holds:=
 law_holds (row_holds sound)
end
section
open PySem PySem.Spec PySem.Calls PyProof.Rows PySem.W
section
variable {C:Ctx} {k:Nat}
noncomputable abbrev Sc_substitution_cost:Scope:=fdScope (st 20)
theorem Sc_substitution_cost_0:NameOk Sc_substitution_cost 0 (Str.ofString "ch_a") .local:= .of (by kernel_rfl)
theorem Sc_substitution_cost_1:NameOk Sc_substitution_cost 1 (Str.ofString "ch_b") .local:= .of (by kernel_rfl)
theorem Sc_substitution_cost_2:NameOk Sc_substitution_cost 2 (Str.ofString "_CASE_COST") .globalImplicit:= .of (by kernel_rfl)
theorem Sc_substitution_cost_3:NameOk Sc_substitution_cost 3 (Str.ofString "_MOVE_COST") .globalImplicit:= .of (by kernel_rfl)
noncomputable def W_substitution_cost (W:Wk C):{P:PT Fl // SoundS C k Sc_substitution_cost P (fdBody (st 20))}:=⟨_,
(s_cons (s_if (s_cmpB W.K (v_loc 0 Sc_substitution_cost_0) (v_loc 1 Sc_substitution_cost_1) rfl)
(s_cons (s_ret s_int)
s_nil)
s_nil)
(s_cons (s_if (s_cmpB W.K (v_m0 W .lower (v_loc 0 Sc_substitution_cost_0) rfl rfl rfl) (v_m0 W .lower (v_loc 1 Sc_substitution_cost_1) rfl rfl rfl) rfl)
(s_cons (s_ret (v_glob W W.g__CASE_COST Sc_substitution_cost_2))
s_nil)
s_nil)
(s_cons (s_ret (v_glob W W.g__MOVE_COST Sc_substitution_cost_3))
s_nil)))⟩
noncomputable abbrev Sc_div3n2n:Scope:=fdScope (st 3)
theorem Sc_div3n2n_0:NameOk Sc_div3n2n 0 (Str.ofString "a12") .local:= .of (by kernel_rfl)
theorem Sc_div3n2n_1:NameOk Sc_div3n2n 1 (Str.ofString "a3") .local:= .of (by kernel_rfl)
theorem Sc_div3n2n_2:NameOk Sc_div3n2n 2 (Str.ofString "b") .local:= .of (by kernel_rfl)
theorem Sc_div3n2n_3:NameOk Sc_div3n2n 3 (Str.ofString "b1") .local:= .of (by kernel_rfl)
theorem Sc_div3n2n_4:NameOk Sc_div3n2n 4 (Str.ofString "b2") .local:= .of (by kernel_rfl)
theorem Sc_div3n2n_5:NameOk Sc_div3n2n 5 (Str.ofString "n") .local:= .of (by kernel_rfl)
theorem Sc_div3n2n_6:NameOk Sc_div3n2n 6 (Str.ofString "q") .local:= .of (by kernel_rfl)
theorem Sc_div3n2n_7:NameOk Sc_div3n2n 7 (Str.ofString "r") .local:= .of (by kernel_rfl)
theorem Sc_div3n2n_8:NameOk Sc_div3n2n 8 (Str.ofString "_div2n1n") .globalImplicit:= .of (by kernel_rfl)
noncomputable def W_div3n2n (W:Wk C) {T__div2n1n:Con} (h__div2n1n:FnSound C k W.a__div2n1n T__div2n1n):{P:PT Fl // SoundS C k Sc_div3n2n P (fdBody (st 3))}:=⟨_,
(s_cons (s_if (s_cmpB W.K (s_bin W.K (v_loc 0 Sc_div3n2n_0) (v_loc 5 Sc_div3n2n_5)) (v_loc 3 Sc_div3n2n_3) rfl)
(s_cons (v_swap W (is:=[7,6]) (.c Sc_div3n2n_7 (.c Sc_div3n2n_6 .nil)) (s_tup W.K (.c (s_bin W.K (s_bin W.K s_int (v_loc 5 Sc_div3n2n_5)) s_int) rfl (.c (s_bin W.K (s_bin W.K (v_loc 0 Sc_div3n2n_0) (s_bin W.K (v_loc 3 Sc_div3n2n_3) (v_loc 5 Sc_div3n2n_5))) (v_loc 3 Sc_div3n2n_3)) rfl .nil))) rfl (fun env e=>by cases env;cases e;kernel_rfl))
s_nil)
(s_cons (v_asg1 W (a_tup W.K (.c (v_an W 6 Sc_div3n2n_6) rfl (.c (v_an W 7 Sc_div3n2n_7) rfl .nil))) (v_call W W.f__div2n1n h__div2n1n Sc_div3n2n_8 (.c (v_loc 0 Sc_div3n2n_0) rfl (.c (v_loc 3 Sc_div3n2n_3) rfl (.c (v_loc 5 Sc_div3n2n_5) rfl .nil)))) rfl rfl rfl)
s_nil))
(s_cons (v_asg1 W (v_an W 7 Sc_div3n2n_7) (s_bin W.K (s_bin W.K (s_bin W.K (v_loc 7 Sc_div3n2n_7) (v_loc 5 Sc_div3n2n_5)) (v_loc 1 Sc_div3n2n_1)) (s_bin W.K (v_loc 6 Sc_div3n2n_6) (v_loc 4 Sc_div3n2n_4))) rfl rfl rfl)
(s_cons (s_while (s_cmpB W.K (v_loc 7 Sc_div3n2n_7) s_int rfl)
(s_cons (v_aug W 6 Sc_div3n2n_6 s_int)
(s_cons (v_aug W 7 Sc_div3n2n_7 (v_loc 2 Sc_div3n2n_2))
s_nil)))
(s_cons (s_ret (s_tup W.K (.c (v_loc 6 Sc_div3n2n_6) rfl (.c (v_loc 7 Sc_div3n2n_7) rfl .nil))))
s_nil))))⟩
noncomputable abbrev Sc_div2n1n:Scope:=fdScope (st 2)
theorem Sc_div2n1n_0:NameOk Sc_div2n1n 0 (Str.ofString "a") .local:= .of (by kernel_rfl)
theorem Sc_div2n1n_1:NameOk Sc_div2n1n 1 (Str.ofString "b") .local:= .of (by kernel_rfl)
theorem Sc_div2n1n_2:NameOk Sc_div2n1n 2 (Str.ofString "n") .local:= .of (by kernel_rfl)
theorem Sc_div2n1n_3:NameOk Sc_div2n1n 3 (Str.ofString "pad") .local:= .of (by kernel_rfl)
theorem Sc_div2n1n_4:NameOk Sc_div2n1n 4 (Str.ofString "half_n") .local:= .of (by kernel_rfl)
theorem Sc_div2n1n_5:NameOk Sc_div2n1n 5 (Str.ofString "mask") .local:= .of (by kernel_rfl)
theorem Sc_div2n1n_6:NameOk Sc_div2n1n 6 (Str.ofString "b1") .local:= .of (by kernel_rfl)
theorem Sc_div2n1n_7:NameOk Sc_div2n1n 7 (Str.ofString "b2") .local:= .of (by kernel_rfl)
theorem Sc_div2n1n_8:NameOk Sc_div2n1n 8 (Str.ofString "q1") .local:= .of (by kernel_rfl)
theorem Sc_div2n1n_9:NameOk Sc_div2n1n 9 (Str.ofString "r") .local:= .of (by kernel_rfl)
theorem Sc_div2n1n_10:NameOk Sc_div2n1n 10 (Str.ofString "q2") .local:= .of (by kernel_rfl)
theorem Sc_div2n1n_11:NameOk Sc_div2n1n 11 (Str.ofString "_DIV_LIMIT") .globalImplicit:= .of (by kernel_rfl)
theorem Sc_div2n1n_12:NameOk Sc_div2n1n 12 (Str.ofString "divmod") .globalImplicit:= .of (by kernel_rfl)
theorem Sc_div2n1n_13:NameOk Sc_div2n1n 13 (Str.ofString "_div3n2n") .globalImplicit:= .of (by kernel_rfl)
noncomputable def W_div2n1n (W:Wk C) {T__div3n2n:Con} (h__div3n2n:FnSound C k W.a__div3n2n T__div3n2n):{P:PT Fl // SoundS C k Sc_div2n1n P (fdBody (st 2))}:=⟨_,
(s_cons (s_if (s_cmpB W.K (s_bin W.K (v_m0 W .bitlen (v_loc 0 Sc_div2n1n_0) rfl rfl rfl) (v_loc 2 Sc_div2n1n_2)) (v_glob W W.g__DIV_LIMIT Sc_div2n1n_11) rfl)
(s_cons (s_ret (v_bi W .divmod W.m_divmod W.b_divmod Sc_div2n1n_12 (.c (v_loc 0 Sc_div2n1n_0) rfl (.c (v_loc 1 Sc_div2n1n_1) rfl .nil))))
s_nil)
s_nil)
(s_cons (v_asg1 W (v_an W 3 Sc_div2n1n_3) (s_bin W.K (v_loc 2 Sc_div2n1n_2) s_int) rfl rfl rfl)
(s_cons (s_if (v_t (v_loc 3 Sc_div2n1n_3) rfl)
(s_cons (v_aug W 0 Sc_div2n1n_0 s_int)
(s_cons (v_aug W 1 Sc_div2n1n_1 s_int)
(s_cons (v_aug W 2 Sc_div2n1n_2 s_int)
s_nil)))
s_nil)
(s_cons (v_asg1 W (v_an W 4 Sc_div2n1n_4) (s_bin W.K (v_loc 2 Sc_div2n1n_2) s_int) rfl rfl rfl)
(s_cons (v_asg1 W (v_an W 5 Sc_div2n1n_5) (s_bin W.K (s_bin W.K s_int (v_loc 4 Sc_div2n1n_4)) s_int) rfl rfl rfl)
(s_cons (v_swap W (is:=[7,6]) (.c Sc_div2n1n_7 (.c Sc_div2n1n_6 .nil)) (s_tup W.K (.c (s_bin W.K (v_loc 1 Sc_div2n1n_1) (v_loc 4 Sc_div2n1n_4)) rfl (.c (s_bin W.K (v_loc 1 Sc_div2n1n_1) (v_loc 5 Sc_div2n1n_5)) rfl .nil))) rfl (fun env e=>by cases env;cases e;kernel_rfl))
(s_cons (v_asg1 W (a_tup W.K (.c (v_an W 8 Sc_div2n1n_8) rfl (.c (v_an W 9 Sc_div2n1n_9) rfl .nil))) (v_call W W.f__div3n2n h__div3n2n Sc_div2n1n_13 (.c (s_bin W.K (v_loc 0 Sc_div2n1n_0) (v_loc 2 Sc_div2n1n_2)) rfl (.c (s_bin W.K (s_bin W.K (v_loc 0 Sc_div2n1n_0) (v_loc 4 Sc_div2n1n_4)) (v_loc 5 Sc_div2n1n_5)) rfl (.c (v_loc 1 Sc_div2n1n_1) rfl (.c (v_loc 6 Sc_div2n1n_6) rfl (.c (v_loc 7 Sc_div2n1n_7) rfl (.c (v_loc 4 Sc_div2n1n_4) rfl .nil))))))) rfl rfl rfl)
(s_cons (v_asg1 W (a_tup W.K (.c (v_an W 10 Sc_div2n1n_10) rfl (.c (v_an W 9 Sc_div2n1n_9) rfl .nil))) (v_call W W.f__div3n2n h__div3n2n Sc_div2n1n_13 (.c (v_loc 9 Sc_div2n1n_9) rfl (.c (s_bin W.K (v_loc 0 Sc_div2n1n_0) (v_loc 5 Sc_div2n1n_5)) rfl (.c (v_loc 1 Sc_div2n1n_1) rfl (.c (v_loc 6 Sc_div2n1n_6) rfl (.c (v_loc 7 Sc_div2n1n_7) rfl (.c (v_loc 4 Sc_div2n1n_4) rfl .nil))))))) rfl rfl rfl)
(s_cons (s_if (v_t (v_loc 3 Sc_div2n1n_3) rfl)
(s_cons (v_aug W 9 Sc_div2n1n_9 s_int)
s_nil)
s_nil)
(s_cons (s_ret (s_tup W.K (.c (s_bin W.K (s_bin W.K (v_loc 8 Sc_div2n1n_8) (v_loc 4 Sc_div2n1n_4)) (v_loc 10 Sc_div2n1n_10)) rfl (.c (v_loc 9 Sc_div2n1n_9) rfl .nil))))
s_nil))))))))))⟩
noncomputable abbrev Sc_divmod_pos:Scope:=fdScope (st 6)
theorem Sc_divmod_pos_0:NameOk Sc_divmod_pos 0 (Str.ofString "a") .local:= .of (by kernel_rfl)
theorem Sc_divmod_pos_1:NameOk Sc_divmod_pos 1 (Str.ofString "b") .local:= .of (by kernel_rfl)
theorem Sc_divmod_pos_2:NameOk Sc_divmod_pos 2 (Str.ofString "n") .local:= .of (by kernel_rfl)
theorem Sc_divmod_pos_3:NameOk Sc_divmod_pos 3 (Str.ofString "a_digits") .local:= .of (by kernel_rfl)
theorem Sc_divmod_pos_4:NameOk Sc_divmod_pos 4 (Str.ofString "r") .local:= .of (by kernel_rfl)
theorem Sc_divmod_pos_5:NameOk Sc_divmod_pos 5 (Str.ofString "q_digits") .local:= .of (by kernel_rfl)
theorem Sc_divmod_pos_6:NameOk Sc_divmod_pos 6 (Str.ofString "a_digit") .local:= .of (by kernel_rfl)
theorem Sc_divmod_pos_7:NameOk Sc_divmod_pos 7 (Str.ofString "q_digit") .local:= .of (by kernel_rfl)
theorem Sc_divmod_pos_8:NameOk Sc_divmod_pos 8 (Str.ofString "q") .local:= .of (by kernel_rfl)
theorem Sc_divmod_pos_9:NameOk Sc_divmod_pos 9 (Str.ofString "_int2digits") .globalImplicit:= .of (by kernel_rfl)
theorem Sc_divmod_pos_10:NameOk Sc_divmod_pos 10 (Str.ofString "reversed") .globalImplicit:= .of (by kernel_rfl)
theorem Sc_divmod_pos_11:NameOk Sc_divmod_pos 11 (Str.ofString "_div2n1n") .globalImplicit:= .of (by kernel_rfl)
theorem Sc_divmod_pos_12:NameOk Sc_divmod_pos 12 (Str.ofString "_digits2int") .globalImplicit:= .of (by kernel_rfl)
noncomputable def W_divmod_pos (W:Wk C) {T__digits2int:Con} (h__digits2int:FnSound C k W.a__digits2int T__digits2int) {T__div2n1n:Con} (h__div2n1n:FnSound C k W.a__div2n1n T__div2n1n) {T__int2digits:Con} (h__int2digits:FnSound C k W.a__int2digits T__int2digits):{P:PT Fl // SoundS C k Sc_divmod_pos P (fdBody (st 6))}:=⟨_,
(s_cons (v_asg1 W (v_an W 2 Sc_divmod_pos_2) (v_m0 W .bitlen (v_loc 1 Sc_divmod_pos_1) rfl rfl rfl) rfl rfl rfl)
(s_cons (v_asg1 W (v_an W 3 Sc_divmod_pos_3) (v_call W W.f__int2digits h__int2digits Sc_divmod_pos_9 (.c (v_loc 0 Sc_divmod_pos_0) rfl (.c (v_loc 2 Sc_divmod_pos_2) rfl .nil))) rfl rfl rfl)
(s_cons (v_asg1 W (v_an W 4 Sc_divmod_pos_4) s_int rfl rfl rfl)
(s_cons (v_asg1 W (v_an W 5 Sc_divmod_pos_5) (s_list W.K .nil) rfl rfl rfl)
(s_cons (v_for W (v_rev W Sc_divmod_pos_10 (.c (v_loc 3 Sc_divmod_pos_3) rfl .nil)) (v_an W 6 Sc_divmod_pos_6) rfl rfl
(s_cons (v_asg1 W (a_tup W.K (.c (v_an W 7 Sc_divmod_pos_7) rfl (.c (v_an W 4 Sc_divmod_pos_4) rfl .nil))) (v_call W W.f__div2n1n h__div2n1n Sc_divmod_pos_11 (.c (s_bin W.K (s_bin W.K (v_loc 4 Sc_divmod_pos_4) (v_loc 2 Sc_divmod_pos_2)) (v_loc 6 Sc_divmod_pos_6)) rfl (.c (v_loc 1 Sc_divmod_pos_1) rfl (.c (v_loc 2 Sc_divmod_pos_2) rfl .nil)))) rfl rfl rfl)
(s_cons (v_expr (v_m1 W .append (v_loc 5 Sc_divmod_pos_5) (v_loc 7 Sc_divmod_pos_7) rfl rfl rfl rfl) rfl)
s_nil)))
(s_cons (v_expr (v_m0 W .reverse (v_loc 5 Sc_divmod_pos_5) rfl rfl rfl) rfl)
(s_cons (v_asg1 W (v_an W 8 Sc_divmod_pos_8) (v_call W W.f__digits2int h__digits2int Sc_divmod_pos_12 (.c (v_loc 5 Sc_divmod_pos_5) rfl (.c (v_loc 2 Sc_divmod_pos_2) rfl .nil))) rfl rfl rfl)
(s_cons (s_ret (s_tup W.K (.c (v_loc 8 Sc_divmod_pos_8) rfl (.c (v_loc 4 Sc_divmod_pos_4) rfl .nil))))
s_nil))))))))⟩
noncomputable abbrev Scint_divmod:Scope:=fdScope (st 7)
theorem Scint_divmod_0:NameOk Scint_divmod 0 (Str.ofString "a") .local:= .of (by kernel_rfl)
theorem Scint_divmod_1:NameOk Scint_divmod 1 (Str.ofString "b") .local:= .of (by kernel_rfl)
theorem Scint_divmod_2:NameOk Scint_divmod 2 (Str.ofString "q") .local:= .of (by kernel_rfl)
theorem Scint_divmod_3:NameOk Scint_divmod 3 (Str.ofString "r") .local:= .of (by kernel_rfl)
theorem Scint_divmod_5:NameOk Scint_divmod 5 (Str.ofString "int_divmod") .globalImplicit:= .of (by kernel_rfl)
theorem Scint_divmod_6:NameOk Scint_divmod 6 (Str.ofString "_divmod_pos") .globalImplicit:= .of (by kernel_rfl)
noncomputable def Wint_divmod (W:Wk C) {T__divmod_pos:Con} (h__divmod_pos:FnSound C k W.a__divmod_pos T__divmod_pos) {T_int_divmod:Con} (h_int_divmod:FnSound C k W.a_int_divmod T_int_divmod):{P:PT Fl // SoundS C k Scint_divmod P (fdBody (st 7))}:=⟨_,
(s_cons (s_if (s_cmpB W.K (v_loc 1 Scint_divmod_1) s_int rfl)
(s_cons s_raise
s_nil)
(s_cons (s_if (s_cmpB W.K (v_loc 1 Scint_divmod_1) s_int rfl)
(s_cons (v_asg1 W (a_tup W.K (.c (v_an W 2 Scint_divmod_2) rfl (.c (v_an W 3 Scint_divmod_3) rfl .nil))) (v_call W W.f_int_divmod h_int_divmod Scint_divmod_5 (.c (s_un (v_loc 0 Scint_divmod_0)) rfl (.c (s_un (v_loc 1 Scint_divmod_1)) rfl .nil))) rfl rfl rfl)
(s_cons (s_ret (s_tup W.K (.c (v_loc 2 Scint_divmod_2) rfl (.c (s_un (v_loc 3 Scint_divmod_3)) rfl .nil))))
s_nil))
(s_cons (s_if (s_cmpB W.K (v_loc 0 Scint_divmod_0) s_int rfl)
(s_cons (v_asg1 W (a_tup W.K (.c (v_an W 2 Scint_divmod_2) rfl (.c (v_an W 3 Scint_divmod_3) rfl .nil))) (v_call W W.f_int_divmod h_int_divmod Scint_divmod_5 (.c (s_un (v_loc 0 Scint_divmod_0)) rfl (.c (v_loc 1 Scint_divmod_1) rfl .nil))) rfl rfl rfl)
(s_cons (s_ret (s_tup W.K (.c (s_un (v_loc 2 Scint_divmod_2)) rfl (.c (s_bin W.K (v_loc 1 Scint_divmod_1) (s_un (v_loc 3 Scint_divmod_3))) rfl .nil))))
s_nil))
(s_cons (s_ret (v_call W W.f__divmod_pos h__divmod_pos Scint_divmod_6 (.c (v_loc 0 Scint_divmod_0) rfl (.c (v_loc 1 Scint_divmod_1) rfl .nil))))
s_nil))
s_nil))
s_nil))
s_nil)⟩
noncomputable abbrev Sc_levenshtein_distance:Scope:=fdScope (st 21)
theorem Sc_levenshtein_distance_0:NameOk Sc_levenshtein_distance 0 (Str.ofString "a") .local:= .of (by kernel_rfl)
theorem Sc_levenshtein_distance_1:NameOk Sc_levenshtein_distance 1 (Str.ofString "b") .local:= .of (by kernel_rfl)
theorem Sc_levenshtein_distance_2:NameOk Sc_levenshtein_distance 2 (Str.ofString "max_cost") .local:= .of (by kernel_rfl)
theorem Sc_levenshtein_distance_3:NameOk Sc_levenshtein_distance 3 (Str.ofString "pre") .local:= .of (by kernel_rfl)
theorem Sc_levenshtein_distance_4:NameOk Sc_levenshtein_distance 4 (Str.ofString "post") .local:= .of (by kernel_rfl)
theorem Sc_levenshtein_distance_5:NameOk Sc_levenshtein_distance 5 (Str.ofString "row") .local:= .of (by kernel_rfl)
theorem Sc_levenshtein_distance_6:NameOk Sc_levenshtein_distance 6 (Str.ofString "result") .local:= .of (by kernel_rfl)
theorem Sc_levenshtein_distance_7:NameOk Sc_levenshtein_distance 7 (Str.ofString "bindex") .local:= .of (by kernel_rfl)
theorem Sc_levenshtein_distance_8:NameOk Sc_levenshtein_distance 8 (Str.ofString "bchar") .local:= .of (by kernel_rfl)
theorem Sc_levenshtein_distance_9:NameOk Sc_levenshtein_distance 9 (Str.ofString "distance") .local:= .of (by kernel_rfl)
theorem Sc_levenshtein_distance_10:NameOk Sc_levenshtein_distance 10 (Str.ofString "minimum") .local:= .of (by kernel_rfl)
theorem Sc_levenshtein_distance_11:NameOk Sc_levenshtein_distance 11 (Str.ofString "index") .local:= .of (by kernel_rfl)
theorem Sc_levenshtein_distance_12:NameOk Sc_levenshtein_distance 12 (Str.ofString "substitute") .local:= .of (by kernel_rfl)
theorem Sc_levenshtein_distance_13:NameOk Sc_levenshtein_distance 13 (Str.ofString "insert_delete") .local:= .of (by kernel_rfl)
theorem Sc_levenshtein_distance_14:NameOk Sc_levenshtein_distance 14 (Str.ofString "_MOVE_COST") .globalImplicit:= .of (by kernel_rfl)
theorem Sc_levenshtein_distance_15:NameOk Sc_levenshtein_distance 15 (Str.ofString "len") .globalImplicit:= .of (by kernel_rfl)
theorem Sc_levenshtein_distance_16:NameOk Sc_levenshtein_distance 16 (Str.ofString "_MAX_STRING_SIZE") .globalImplicit:= .of (by kernel_rfl)
theorem Sc_levenshtein_distance_17:NameOk Sc_levenshtein_distance 17 (Str.ofString "list") .globalImplicit:= .of (by kernel_rfl)
theorem Sc_levenshtein_distance_18:NameOk Sc_levenshtein_distance 18 (Str.ofString "range") .globalImplicit:= .of (by kernel_rfl)
theorem Sc_levenshtein_distance_19:NameOk Sc_levenshtein_distance 19 (Str.ofString "_substitution_cost") .globalImplicit:= .of (by kernel_rfl)
theorem Sc_levenshtein_distance_20:NameOk Sc_levenshtein_distance 20 (Str.ofString "min") .globalImplicit:= .of (by kernel_rfl)
noncomputable def W_levenshtein_distance (W:Wk C) {T__substitution_cost:Con} (h__substitution_cost:FnSound C k W.a__substitution_cost T__substitution_cost):{P:PT Fl // SoundS C k Sc_levenshtein_distance P (fdBody (st 21))}:=⟨_,
(s_cons (s_if (s_cmpB W.K (v_loc 0 Sc_levenshtein_distance_0) (v_loc 1 Sc_levenshtein_distance_1) rfl)
(s_cons (s_ret s_int)
s_nil)
s_nil)
(s_cons (v_asg1 W (v_an W 3 Sc_levenshtein_distance_3) s_int rfl rfl rfl)
(s_cons (s_while (s_boolop (.cons (v_t (s_sl W.K (v_loc 0 Sc_levenshtein_distance_0) (.some (v_loc 3 Sc_levenshtein_distance_3)) .none) rfl) (.cons (v_t (s_sl W.K (v_loc 1 Sc_levenshtein_distance_1) (.some (v_loc 3 Sc_levenshtein_distance_3)) .none) rfl) (.cons (s_cmpB W.K (v_it W (v_loc 0 Sc_levenshtein_distance_0) (v_loc 3 Sc_levenshtein_distance_3) rfl) (v_it W (v_loc 1 Sc_levenshtein_distance_1) (v_loc 3 Sc_levenshtein_distance_3) rfl) rfl) .nil))))
(s_cons (v_aug W 3 Sc_levenshtein_distance_3 s_int)
s_nil))
(s_cons (v_asg1 W (v_an W 0 Sc_levenshtein_distance_0) (s_sl W.K (v_loc 0 Sc_levenshtein_distance_0) (.some (v_loc 3 Sc_levenshtein_distance_3)) .none) rfl rfl rfl)
(s_cons (v_asg1 W (v_an W 1 Sc_levenshtein_distance_1) (s_sl W.K (v_loc 1 Sc_levenshtein_distance_1) (.some (v_loc 3 Sc_levenshtein_distance_3)) .none) rfl rfl rfl)
(s_cons (v_asg1 W (v_an W 4 Sc_levenshtein_distance_4) s_int rfl rfl rfl)
(s_cons (s_while (s_boolop (.cons (v_t (s_sl W.K (v_loc 0 Sc_levenshtein_distance_0) .none (.some (s_or W.K (v_loc 4 Sc_levenshtein_distance_4) s_none))) rfl) (.cons (v_t (s_sl W.K (v_loc 1 Sc_levenshtein_distance_1) .none (.some (s_or W.K (v_loc 4 Sc_levenshtein_distance_4) s_none))) rfl) (.cons (s_cmpB W.K (v_it W (v_loc 0 Sc_levenshtein_distance_0) (s_bin W.K (v_loc 4 Sc_levenshtein_distance_4) s_int) rfl) (v_it W (v_loc 1 Sc_levenshtein_distance_1) (s_bin W.K (v_loc 4 Sc_levenshtein_distance_4) s_int) rfl) rfl) .nil))))
(s_cons (v_aug W 4 Sc_levenshtein_distance_4 s_int)
s_nil))
(s_cons (v_asg1 W (v_an W 0 Sc_levenshtein_distance_0) (s_sl W.K (v_loc 0 Sc_levenshtein_distance_0) .none (.some (s_or W.K (v_loc 4 Sc_levenshtein_distance_4) s_none))) rfl rfl rfl)
(s_cons (v_asg1 W (v_an W 1 Sc_levenshtein_distance_1) (s_sl W.K (v_loc 1 Sc_levenshtein_distance_1) .none (.some (s_or W.K (v_loc 4 Sc_levenshtein_distance_4) s_none))) rfl rfl rfl)
(s_cons (s_if (s_boolop (.cons (s_notB (v_t (v_loc 0 Sc_levenshtein_distance_0) rfl)) (.cons (s_notB (v_t (v_loc 1 Sc_levenshtein_distance_1) rfl)) .nil)))
(s_cons (s_ret (s_bin W.K (v_glob W W.g__MOVE_COST Sc_levenshtein_distance_14) (s_bin W.K (v_bi W .len W.m_len W.b_len Sc_levenshtein_distance_15 (.c (v_loc 0 Sc_levenshtein_distance_0) rfl .nil)) (v_bi W .len W.m_len W.b_len Sc_levenshtein_distance_15 (.c (v_loc 1 Sc_levenshtein_distance_1) rfl .nil)))))
s_nil)
s_nil)
(s_cons (s_if (s_boolop (.cons (s_cmpB W.K (v_bi W .len W.m_len W.b_len Sc_levenshtein_distance_15 (.c (v_loc 0 Sc_levenshtein_distance_0) rfl .nil)) (v_glob W W.g__MAX_STRING_SIZE Sc_levenshtein_distance_16) rfl) (.cons (s_cmpB W.K (v_bi W .len W.m_len W.b_len Sc_levenshtein_distance_15 (.c (v_loc 1 Sc_levenshtein_distance_1) rfl .nil)) (v_glob W W.g__MAX_STRING_SIZE Sc_levenshtein_distance_16) rfl) .nil)))
(s_cons (s_ret (s_bin W.K (v_loc 2 Sc_levenshtein_distance_2) s_int))
s_nil)
s_nil)
(s_cons (s_if (s_cmpB W.K (v_bi W .len W.m_len W.b_len Sc_levenshtein_distance_15 (.c (v_loc 1 Sc_levenshtein_distance_1) rfl .nil)) (v_bi W .len W.m_len W.b_len Sc_levenshtein_distance_15 (.c (v_loc 0 Sc_levenshtein_distance_0) rfl .nil)) rfl)
(s_cons (v_swap W (is:=[1,0]) (.c Sc_levenshtein_distance_1 (.c Sc_levenshtein_distance_0 .nil)) (s_tup W.K (.c (v_loc 1 Sc_levenshtein_distance_1) rfl (.c (v_loc 0 Sc_levenshtein_distance_0) rfl .nil))) rfl (fun env e=>by cases env;cases e;kernel_rfl))
s_nil)
s_nil)
(s_cons (s_if (s_cmpB W.K (s_bin W.K (s_bin W.K (v_bi W .len W.m_len W.b_len Sc_levenshtein_distance_15 (.c (v_loc 1 Sc_levenshtein_distance_1) rfl .nil)) (v_bi W .len W.m_len W.b_len Sc_levenshtein_distance_15 (.c (v_loc 0 Sc_levenshtein_distance_0) rfl .nil))) (v_glob W W.g__MOVE_COST Sc_levenshtein_distance_14)) (v_loc 2 Sc_levenshtein_distance_2) rfl)
(s_cons (s_ret (s_bin W.K (v_loc 2 Sc_levenshtein_distance_2) s_int))
s_nil)
s_nil)
(s_cons (v_asg1 W (v_an W 5 Sc_levenshtein_distance_5) (v_lrange W Sc_levenshtein_distance_18 Sc_levenshtein_distance_17 (.c (v_glob W W.g__MOVE_COST Sc_levenshtein_distance_14) rfl (.c (s_bin W.K (v_glob W W.g__MOVE_COST Sc_levenshtein_distance_14) (s_bin W.K (v_bi W .len W.m_len W.b_len Sc_levenshtein_distance_15 (.c (v_loc 0 Sc_levenshtein_distance_0) rfl .nil)) s_int)) rfl (.c (v_glob W W.g__MOVE_COST Sc_levenshtein_distance_14) rfl .nil)))) rfl rfl rfl)
(s_cons (v_asg1 W (v_an W 6 Sc_levenshtein_distance_6) s_int rfl rfl rfl)
(s_cons (v_for W (v_range W Sc_levenshtein_distance_18 (.c (v_bi W .len W.m_len W.b_len Sc_levenshtein_distance_15 (.c (v_loc 1 Sc_levenshtein_distance_1) rfl .nil)) rfl .nil)) (v_an W 7 Sc_levenshtein_distance_7) rfl rfl
(s_cons (v_asg1 W (v_an W 8 Sc_levenshtein_distance_8) (v_it W (v_loc 1 Sc_levenshtein_distance_1) (v_loc 7 Sc_levenshtein_distance_7) rfl) rfl rfl rfl)
(s_cons (v_asg2 W (v_an W 9 Sc_levenshtein_distance_9) (v_an W 6 Sc_levenshtein_distance_6) (s_bin W.K (v_loc 7 Sc_levenshtein_distance_7) (v_glob W W.g__MOVE_COST Sc_levenshtein_distance_14)) rfl rfl rfl rfl)
(s_cons (v_asg1 W (v_an W 10 Sc_levenshtein_distance_10) s_int rfl rfl rfl)
(s_cons (v_for W (v_range W Sc_levenshtein_distance_18 (.c (v_bi W .len W.m_len W.b_len Sc_levenshtein_distance_15 (.c (v_loc 0 Sc_levenshtein_distance_0) rfl .nil)) rfl .nil)) (v_an W 11 Sc_levenshtein_distance_11) rfl rfl
(s_cons (v_asg1 W (v_an W 12 Sc_levenshtein_distance_12) (s_bin W.K (v_loc 9 Sc_levenshtein_distance_9) (v_call W W.f__substitution_cost h__substitution_cost Sc_levenshtein_distance_19 (.c (v_loc 8 Sc_levenshtein_distance_8) rfl (.c (v_it W (v_loc 0 Sc_levenshtein_distance_0) (v_loc 11 Sc_levenshtein_distance_11) rfl) rfl .nil)))) rfl rfl rfl)
(s_cons (v_asg1 W (v_an W 9 Sc_levenshtein_distance_9) (v_it W (v_loc 5 Sc_levenshtein_distance_5) (v_loc 11 Sc_levenshtein_distance_11) rfl) rfl rfl rfl)
(s_cons (v_asg1 W (v_an W 13 Sc_levenshtein_distance_13) (s_bin W.K (v_bi W .min W.m_min W.b_min Sc_levenshtein_distance_20 (.c (v_loc 6 Sc_levenshtein_distance_6) rfl (.c (v_loc 9 Sc_levenshtein_distance_9) rfl .nil))) (v_glob W W.g__MOVE_COST Sc_levenshtein_distance_14)) rfl rfl rfl)
(s_cons (v_asg1 W (v_an W 6 Sc_levenshtein_distance_6) (v_bi W .min W.m_min W.b_min Sc_levenshtein_distance_20 (.c (v_loc 13 Sc_levenshtein_distance_13) rfl (.c (v_loc 12 Sc_levenshtein_distance_12) rfl .nil))) rfl rfl rfl)
(s_cons (v_asg1 W (a_sub W.K (v_loc 5 Sc_levenshtein_distance_5) (v_loc 11 Sc_levenshtein_distance_11)) (v_loc 6 Sc_levenshtein_distance_6) rfl rfl rfl)
(s_cons (s_if (s_cmpB W.K (v_loc 6 Sc_levenshtein_distance_6) (v_loc 10 Sc_levenshtein_distance_10) rfl)
(s_cons (v_asg1 W (v_an W 10 Sc_levenshtein_distance_10) (v_loc 6 Sc_levenshtein_distance_6) rfl rfl rfl)
s_nil)
s_nil)
s_nil)))))))
(s_cons (s_if (s_cmpB W.K (v_loc 10 Sc_levenshtein_distance_10) (v_loc 2 Sc_levenshtein_distance_2) rfl)
(s_cons (s_ret (s_bin W.K (v_loc 2 Sc_levenshtein_distance_2) s_int))
s_nil)
s_nil)
s_nil))))))
(s_cons (s_ret (v_loc 6 Sc_levenshtein_distance_6))
s_nil)))))))))))))))))⟩
noncomputable abbrev Sc_law_cells:Scope:=fdScope (st 23)
theorem Sc_law_cells_0:NameOk Sc_law_cells 0 (Str.ofString "script") .local:= .of (by kernel_rfl)
theorem Sc_law_cells_1:NameOk Sc_law_cells 1 (Str.ofString "cells") .local:= .of (by kernel_rfl)
theorem Sc_law_cells_2:NameOk Sc_law_cells 2 (Str.ofString "place") .local:= .of (by kernel_rfl)
theorem Sc_law_cells_3:NameOk Sc_law_cells 3 (Str.ofString "range") .globalImplicit:= .of (by kernel_rfl)
theorem Sc_law_cells_4:NameOk Sc_law_cells 4 (Str.ofString "len") .globalImplicit:= .of (by kernel_rfl)
noncomputable abbrev Sc_law_word:Scope:=fdScope (st 24)
theorem Sc_law_word_0:NameOk Sc_law_word 0 (Str.ofString "cell") .local:= .of (by kernel_rfl)
theorem Sc_law_word_1:NameOk Sc_law_word 1 (Str.ofString "letters") .local:= .of (by kernel_rfl)
theorem Sc_law_word_2:NameOk Sc_law_word 2 (Str.ofString "order") .local:= .of (by kernel_rfl)
theorem Sc_law_word_3:NameOk Sc_law_word 3 (Str.ofString "left") .local:= .of (by kernel_rfl)
theorem Sc_law_word_4:NameOk Sc_law_word 4 (Str.ofString "size") .local:= .of (by kernel_rfl)
theorem Sc_law_word_5:NameOk Sc_law_word 5 (Str.ofString "spots") .local:= .of (by kernel_rfl)
theorem Sc_law_word_6:NameOk Sc_law_word 6 (Str.ofString "word") .local:= .of (by kernel_rfl)
theorem Sc_law_word_7:NameOk Sc_law_word 7 (Str.ofString "letter") .local:= .of (by kernel_rfl)
theorem Sc_law_word_8:NameOk Sc_law_word 8 (Str.ofString "len") .globalImplicit:= .of (by kernel_rfl)
noncomputable def W_law_word (W:Wk C):{P:PT Fl // SoundS C k Sc_law_word P (fdBody (st 24))}:=⟨_,
(s_cons (v_asg1 W (v_an W 1 Sc_law_word_1) (s_list W.K (.c s_str rfl (.c s_str rfl (.c s_str rfl (.c s_str rfl .nil))))) rfl rfl rfl)
(s_cons (v_asg1 W (v_an W 2 Sc_law_word_2) (s_list W.K .nil) rfl rfl rfl)
(s_cons (v_asg1 W (v_an W 3 Sc_law_word_3) (s_bin W.K (v_loc 0 Sc_law_word_0) s_int) rfl rfl rfl)
(s_cons (v_for W (i_list W.K (s_list W.K (.c s_int rfl (.c s_int rfl (.c s_int rfl (.c s_int rfl .nil)))))) (v_an W 4 Sc_law_word_4) rfl rfl
(s_cons (v_expr (v_m1 W .append (v_loc 2 Sc_law_word_2) (v_m1 W .pop (v_loc 1 Sc_law_word_1) (s_bin W.K (v_loc 3 Sc_law_word_3) (v_loc 4 Sc_law_word_4)) rfl rfl rfl rfl) rfl rfl rfl rfl) rfl)
(s_cons (v_aug W 3 Sc_law_word_3 (v_loc 4 Sc_law_word_4))
s_nil)))
(s_cons (v_asg1 W (v_an W 5 Sc_law_word_5) (s_list W.K (.c s_int rfl (.c s_int rfl (.c s_int rfl (.c s_int rfl (.c s_int rfl (.c s_int rfl (.c s_int rfl (.c s_int rfl .nil))))))))) rfl rfl rfl)
(s_cons (v_asg1 W (v_an W 6 Sc_law_word_6) (s_list W.K (.c s_str rfl (.c s_str rfl (.c s_str rfl (.c s_str rfl (.c s_str rfl (.c s_str rfl (.c s_str rfl (.c s_str rfl .nil))))))))) rfl rfl rfl)
(s_cons (v_asg1 W (v_an W 3 Sc_law_word_3) (v_loc 0 Sc_law_word_0) rfl rfl rfl)
(s_cons (v_for W (i_list W.K (v_loc 2 Sc_law_word_2)) (v_an W 7 Sc_law_word_7) rfl rfl
(s_cons (v_asg1 W (a_sub W.K (v_loc 6 Sc_law_word_6) (v_m1 W .pop (v_loc 5 Sc_law_word_5) s_int rfl rfl rfl rfl)) (v_loc 7 Sc_law_word_7) rfl rfl rfl)
(s_cons (v_asg1 W (v_an W 4 Sc_law_word_4) (v_bi W .len W.m_len W.b_len Sc_law_word_8 (.c (v_loc 5 Sc_law_word_5) rfl .nil)) rfl rfl rfl)
(s_cons (v_asg1 W (a_sub W.K (v_loc 6 Sc_law_word_6) (v_m1 W .pop (v_loc 5 Sc_law_word_5) (s_bin W.K (v_loc 3 Sc_law_word_3) (v_loc 4 Sc_law_word_4)) rfl rfl rfl rfl)) (v_loc 7 Sc_law_word_7) rfl rfl rfl)
(s_cons (v_aug W 3 Sc_law_word_3 (v_loc 4 Sc_law_word_4))
s_nil)))))
(s_cons (s_ret (v_loc 6 Sc_law_word_6))
s_nil)))))))))⟩
noncomputable abbrev Sc_law_line:Scope:=fdScope (st 26)
theorem Sc_law_line_0:NameOk Sc_law_line 0 (Str.ofString "prepared") .local:= .of (by kernel_rfl)
theorem Sc_law_line_1:NameOk Sc_law_line 1 (Str.ofString "pair") .local:= .of (by kernel_rfl)
theorem Sc_law_line_2:NameOk Sc_law_line 2 (Str.ofString "draw") .local:= .of (by kernel_rfl)
theorem Sc_law_line_3:NameOk Sc_law_line 3 (Str.ofString "line") .local:= .of (by kernel_rfl)
theorem Sc_law_line_4:NameOk Sc_law_line 4 (Str.ofString "kept") .local:= .of (by kernel_rfl)
theorem Sc_law_line_5:NameOk Sc_law_line 5 (Str.ofString "shut") .local:= .of (by kernel_rfl)
theorem Sc_law_line_6:NameOk Sc_law_line 6 (Str.ofString "place") .local:= .of (by kernel_rfl)
theorem Sc_law_line_7:NameOk Sc_law_line 7 (Str.ofString "letter") .local:= .of (by kernel_rfl)
theorem Sc_law_line_8:NameOk Sc_law_line 8 (Str.ofString "ride") .local:= .of (by kernel_rfl)
theorem Sc_law_line_9:NameOk Sc_law_line 9 (Str.ofString "sign") .local:= .of (by kernel_rfl)
theorem Sc_law_line_10:NameOk Sc_law_line 10 (Str.ofString "range") .globalImplicit:= .of (by kernel_rfl)
noncomputable def W_law_line (W:Wk C):{P:PT Fl // SoundS C k Sc_law_line P (fdBody (st 26))}:=⟨_,
(s_cons (v_asg1 W (v_an W 3 Sc_law_line_3) s_str rfl rfl rfl)
(s_cons (v_asg1 W (v_an W 4 Sc_law_line_4) (s_list W.K .nil) rfl rfl rfl)
(s_cons (v_asg1 W (v_an W 5 Sc_law_line_5) s_bool rfl rfl rfl)
(s_cons (v_for W (v_range W Sc_law_line_10 (.c s_int rfl .nil)) (v_an W 6 Sc_law_line_6) rfl rfl
(s_cons (v_asg1 W (v_an W 7 Sc_law_line_7) (v_it W (v_loc 0 Sc_law_line_0) (v_loc 6 Sc_law_line_6) rfl) rfl rfl rfl)
(s_cons (s_if (s_cmpB W.K (s_cmp W.K (v_loc 7 Sc_law_line_7) (v_loc 1 Sc_law_line_1) rfl) (v_loc 5 Sc_law_line_5) rfl)
(s_cons (v_aug W 3 Sc_law_line_3 s_str)
(s_cons (v_asg1 W (v_an W 5 Sc_law_line_5) (s_not (v_loc 5 Sc_law_line_5)) rfl rfl rfl)
s_nil))
s_nil)
(s_cons (v_asg1 W (v_an W 8 Sc_law_line_8) (v_it W (s_list W.K (.c s_str rfl (.c s_str rfl (.c s_str rfl (.c s_str rfl .nil))))) (s_bin W.K (s_bin W.K (v_loc 2 Sc_law_line_2) (s_bin W.K s_int (v_loc 6 Sc_law_line_6))) s_int) rfl) rfl rfl rfl)
(s_cons (v_asg1 W (v_an W 9 Sc_law_line_9) (s_ifE (s_cmpB W.K (v_loc 7 Sc_law_line_7) (s_sl W.K (v_loc 0 Sc_law_line_0) .none (.some (v_loc 6 Sc_law_line_6))) rfl) (v_loc 7 Sc_law_line_7) (v_m0 W .upper (v_loc 7 Sc_law_line_7) rfl rfl rfl)) rfl rfl rfl)
(s_cons (v_aug W 3 Sc_law_line_3 (s_bin W.K (v_loc 8 Sc_law_line_8) (v_loc 9 Sc_law_line_9)))
(s_cons (s_if (s_notB (v_t (v_loc 5 Sc_law_line_5) rfl))
(s_cons (v_aug W 4 Sc_law_line_4 (s_list W.K (.c (v_loc 8 Sc_law_line_8) rfl (.c (v_loc 9 Sc_law_line_9) rfl .nil))))
s_nil)
s_nil)
s_nil)))))))
(s_cons (s_if (v_t (v_loc 5 Sc_law_line_5) rfl)
(s_cons (v_aug W 3 Sc_law_line_3 s_str)
s_nil)
s_nil)
(s_cons (s_ret (s_tup W.K (.c (s_bin W.K (s_bin W.K (s_bin W.K (v_loc 3 Sc_law_line_3) s_str) (s_sl W.K (v_loc 0 Sc_law_line_0) (.some s_int) .none)) s_str) rfl (.c (s_bin W.K (v_comp W [] [] (by kernel_rfl) (i_list W.K (v_loc 4 Sc_law_line_4)) (v_afn W 1 (.of (i:=1) (by kernel_rfl))) (.one (s_cmpB W.K (v_loc 1 (.of (i:=1) (by kernel_rfl))) s_str rfl)) (v_loc 1 (.of (i:=1) (by kernel_rfl))) rfl) (s_list W.K (.c s_str rfl (.c (s_sl W.K (v_loc 0 Sc_law_line_0) (.some s_int) .none) rfl (.c s_str rfl .nil))))) rfl .nil))))
s_nil))))))⟩
noncomputable abbrev Sc_law_cleared:Scope:=fdScope (st 28)
theorem Sc_law_cleared_0:NameOk Sc_law_cleared 0 (Str.ofString "rows") .local:= .of (by kernel_rfl)
theorem Sc_law_cleared_1:NameOk Sc_law_cleared 1 (Str.ofString "exponent") .local:= .of (by kernel_rfl)
theorem Sc_law_cleared_2:NameOk Sc_law_cleared 2 (Str.ofString "draw") .local:= .of (by kernel_rfl)
theorem Sc_law_cleared_3:NameOk Sc_law_cleared 3 (Str.ofString "factor") .local:= .of (by kernel_rfl)
theorem Sc_law_cleared_4:NameOk Sc_law_cleared 4 (Str.ofString "ahead") .local:= .of (by kernel_rfl)
theorem Sc_law_cleared_5:NameOk Sc_law_cleared 5 (Str.ofString "k") .local:= .of (by kernel_rfl)
theorem Sc_law_cleared_6:NameOk Sc_law_cleared 6 (Str.ofString "i") .local:= .of (by kernel_rfl)
theorem Sc_law_cleared_7:NameOk Sc_law_cleared 7 (Str.ofString "j") .local:= .of (by kernel_rfl)
theorem Sc_law_cleared_8:NameOk Sc_law_cleared 8 (Str.ofString "top") .local:= .of (by kernel_rfl)
theorem Sc_law_cleared_9:NameOk Sc_law_cleared 9 (Str.ofString "rest") .local:= .of (by kernel_rfl)
theorem Sc_law_cleared_10:NameOk Sc_law_cleared 10 (Str.ofString "told") .local:= .of (by kernel_rfl)
theorem Sc_law_cleared_11:NameOk Sc_law_cleared 11 (Str.ofString "range") .globalImplicit:= .of (by kernel_rfl)
theorem Sc_law_cleared_12:NameOk Sc_law_cleared 12 (Str.ofString "int_divmod") .globalImplicit:= .of (by kernel_rfl)
noncomputable def W_law_cleared (W:Wk C) {T_int_divmod:Con} (h_int_divmod:FnSound C k W.a_int_divmod T_int_divmod):{P:PT Fl // SoundS C k Sc_law_cleared P (fdBody (st 28))}:=⟨_,
(s_cons (v_asg1 W (v_an W 3 Sc_law_cleared_3) (s_bin W.K s_int (v_loc 1 Sc_law_cleared_1)) rfl rfl rfl)
(s_cons (v_asg1 W (v_an W 4 Sc_law_cleared_4) s_int rfl rfl rfl)
(s_cons (v_for W (v_range W Sc_law_cleared_11 (.c s_int rfl .nil)) (v_an W 5 Sc_law_cleared_5) rfl rfl
(s_cons (v_for W (v_range W Sc_law_cleared_11 (.c (s_bin W.K (v_loc 5 Sc_law_cleared_5) s_int) rfl (.c s_int rfl .nil))) (v_an W 6 Sc_law_cleared_6) rfl rfl
(s_cons (v_for W (v_range W Sc_law_cleared_11 (.c (s_bin W.K (v_loc 5 Sc_law_cleared_5) s_int) rfl (.c s_int rfl .nil))) (v_an W 7 Sc_law_cleared_7) rfl rfl
(s_cons (v_asg1 W (v_an W 8 Sc_law_cleared_8) (s_bin W.K (s_bin W.K (v_it W (v_it W (v_loc 0 Sc_law_cleared_0) (v_loc 5 Sc_law_cleared_5) rfl) (v_loc 5 Sc_law_cleared_5) rfl) (v_it W (v_it W (v_loc 0 Sc_law_cleared_0) (v_loc 6 Sc_law_cleared_6) rfl) (v_loc 7 Sc_law_cleared_7) rfl)) (s_bin W.K (v_it W (v_it W (v_loc 0 Sc_law_cleared_0) (v_loc 6 Sc_law_cleared_6) rfl) (v_loc 5 Sc_law_cleared_5) rfl) (v_it W (v_it W (v_loc 0 Sc_law_cleared_0) (v_loc 5 Sc_law_cleared_5) rfl) (v_loc 7 Sc_law_cleared_7) rfl))) rfl rfl rfl)
(s_cons (s_if (s_cmpB W.K (v_loc 5 Sc_law_cleared_5) s_int rfl)
(s_cons (v_asg1 W (v_an W 9 Sc_law_cleared_9) (s_bin W.K (v_loc 2 Sc_law_cleared_2) (s_bin W.K (v_loc 4 Sc_law_cleared_4) (v_loc 3 Sc_law_cleared_3))) rfl rfl rfl)
(s_cons (v_asg1 W (v_an W 10 Sc_law_cleared_10) (v_call W W.f_int_divmod h_int_divmod Sc_law_cleared_12 (.c (s_bin W.K (s_bin W.K (v_loc 8 Sc_law_cleared_8) (v_loc 3 Sc_law_cleared_3)) (v_loc 9 Sc_law_cleared_9)) rfl (.c (s_bin W.K (v_loc 4 Sc_law_cleared_4) (v_loc 3 Sc_law_cleared_3)) rfl .nil))) rfl rfl rfl)
(s_cons (s_if (s_cmpB W.K (v_loc 10 Sc_law_cleared_10) (s_tup W.K (.c (v_it W (v_loc 10 Sc_law_cleared_10) s_int rfl) rfl (.c (v_loc 9 Sc_law_cleared_9) rfl .nil))) rfl)
(s_cons (s_ret s_int)
s_nil)
s_nil)
(s_cons (v_asg1 W (v_an W 8 Sc_law_cleared_8) (v_it W (v_loc 10 Sc_law_cleared_10) s_int rfl) rfl rfl rfl)
s_nil))))
s_nil)
(s_cons (v_asg1 W (a_sub W.K (v_it W (v_loc 0 Sc_law_cleared_0) (v_loc 6 Sc_law_cleared_6) rfl) (v_loc 7 Sc_law_cleared_7)) (v_loc 8 Sc_law_cleared_8) rfl rfl rfl)
s_nil))))
s_nil))
(s_cons (v_asg1 W (v_an W 4 Sc_law_cleared_4) (v_it W (v_it W (v_loc 0 Sc_law_cleared_0) (v_loc 5 Sc_law_cleared_5) rfl) (v_loc 5 Sc_law_cleared_5) rfl) rfl rfl rfl)
s_nil)))
(s_cons (s_ret (v_it W (v_it W (v_loc 0 Sc_law_cleared_0) s_int rfl) s_int rfl))
s_nil))))⟩
noncomputable abbrev Sc_law_rings:Scope:=fdScope (st 29)
theorem Sc_law_rings_3:NameOk Sc_law_rings 3 (Str.ofString "place") .local:= .of (by kernel_rfl)
theorem Sc_law_rings_4:NameOk Sc_law_rings 4 (Str.ofString "turn") .local:= .of (by kernel_rfl)
theorem Sc_law_rings_5:NameOk Sc_law_rings 5 (Str.ofString "seen") .local:= .of (by kernel_rfl)
theorem Sc_law_rings_6:NameOk Sc_law_rings 6 (Str.ofString "rings") .local:= .of (by kernel_rfl)
theorem Sc_law_rings_7:NameOk Sc_law_rings 7 (Str.ofString "start") .local:= .of (by kernel_rfl)
theorem Sc_law_rings_8:NameOk Sc_law_rings 8 (Str.ofString "range") .globalImplicit:= .of (by kernel_rfl)
noncomputable def W_law_rings (W:Wk C):{P:PT Fl // SoundS C k Sc_law_rings P (fdBody (st 29))}:=⟨_,
(s_cons (v_asgComp W [none,none,some 2,some 1,some 0] [] (by kernel_rfl) 4 Sc_law_rings_4 (v_range W Sc_law_rings_8 (.c s_int rfl .nil)) (v_afn W 1 (.of (i:=1) (by kernel_rfl))) .none (s_ifE (s_cmpB W.K (v_it W (v_cel 4 (.of (i:=4) (by kernel_rfl))) (v_loc 1 (.of (i:=1) (by kernel_rfl))) rfl) (v_cel 2 (.of (i:=2) (by kernel_rfl))) rfl) (v_it W (v_cel 3 (.of (i:=3) (by kernel_rfl))) (v_loc 1 (.of (i:=1) (by kernel_rfl))) rfl) (v_loc 1 (.of (i:=1) (by kernel_rfl)))) rfl (fun env e=>by cases env;cases e;kernel_rfl))
(s_cons (v_asg1 W (v_an W 5 Sc_law_rings_5) (s_list W.K (.c s_int rfl (.c s_int rfl (.c s_int rfl (.c s_int rfl (.c s_int rfl (.c s_int rfl (.c s_int rfl (.c s_int rfl .nil))))))))) rfl rfl rfl)
(s_cons (v_asg1 W (v_an W 6 Sc_law_rings_6) s_int rfl rfl rfl)
(s_cons (v_for W (v_range W Sc_law_rings_8 (.c s_int rfl .nil)) (v_an W 7 Sc_law_rings_7) rfl rfl
(s_cons (s_if (s_cmpB W.K (v_it W (v_loc 5 Sc_law_rings_5) (v_loc 7 Sc_law_rings_7) rfl) s_int rfl)
(s_cons (v_aug W 6 Sc_law_rings_6 s_int)
(s_cons (v_asg1 W (v_an W 3 Sc_law_rings_3) (v_loc 7 Sc_law_rings_7) rfl rfl rfl)
(s_cons (s_while (s_cmpB W.K (v_it W (v_loc 5 Sc_law_rings_5) (v_loc 3 Sc_law_rings_3) rfl) s_int rfl)
(s_cons (v_asg1 W (a_sub W.K (v_loc 5 Sc_law_rings_5) (v_loc 3 Sc_law_rings_3)) s_int rfl rfl rfl)
(s_cons (v_asg1 W (v_an W 3 Sc_law_rings_3) (v_it W (v_loc 4 Sc_law_rings_4) (s_bin W.K (s_bin W.K (v_loc 3 Sc_law_rings_3) s_int) s_int) rfl) rfl rfl rfl)
s_nil)))
s_nil)))
s_nil)
s_nil))
(s_cons (s_ret (v_loc 6 Sc_law_rings_6))
s_nil)))))⟩
noncomputable abbrev Sc_law_table:Scope:=fdScope (st 30)
theorem Sc_law_table_0:NameOk Sc_law_table 0 (Str.ofString "prepared") .local:= .of (by kernel_rfl)
theorem Sc_law_table_1:NameOk Sc_law_table 1 (Str.ofString "weights") .local:= .of (by kernel_rfl)
theorem Sc_law_table_2:NameOk Sc_law_table 2 (Str.ofString "cells") .local:= .of (by kernel_rfl)
theorem Sc_law_table_3:NameOk Sc_law_table 3 (Str.ofString "names") .local:= .of (by kernel_rfl)
theorem Sc_law_table_4:NameOk Sc_law_table 4 (Str.ofString "rows") .local:= .of (by kernel_rfl)
theorem Sc_law_table_5:NameOk Sc_law_table 5 (Str.ofString "width") .local:= .of (by kernel_rfl)
theorem Sc_law_table_6:NameOk Sc_law_table 6 (Str.ofString "number") .local:= .of (by kernel_rfl)
theorem Sc_law_table_7:NameOk Sc_law_table 7 (Str.ofString "i") .local:= .of (by kernel_rfl)
theorem Sc_law_table_8:NameOk Sc_law_table 8 (Str.ofString "j") .local:= .of (by kernel_rfl)
theorem Sc_law_table_9:NameOk Sc_law_table 9 (Str.ofString "entry") .local:= .of (by kernel_rfl)
theorem Sc_law_table_10:NameOk Sc_law_table 10 (Str.ofString "range") .globalImplicit:= .of (by kernel_rfl)
theorem Sc_law_table_11:NameOk Sc_law_table 11 (Str.ofString "_law_entry") .globalImplicit:= .of (by kernel_rfl)
noncomputable def W_law_table (W:Wk C) {T__law_entry:Con} (h__law_entry:FnSound C k W.a__law_entry T__law_entry):{P:PT Fl // SoundS C k Sc_law_table P (fdBody (st 30))}:=⟨_,
(s_cons (v_asg1 W (v_an W 3 Sc_law_table_3) (s_list W.K (.c s_str rfl (.c s_str rfl (.c s_str rfl (.c s_str rfl .nil))))) rfl rfl rfl)
(s_cons (v_asg1 W (v_an W 4 Sc_law_table_4) (s_list W.K (.c (s_list W.K (.c s_int rfl (.c s_int rfl (.c s_int rfl (.c s_int rfl .nil))))) rfl (.c (s_list W.K (.c s_int rfl (.c s_int rfl (.c s_int rfl (.c s_int rfl .nil))))) rfl (.c (s_list W.K (.c s_int rfl (.c s_int rfl (.c s_int rfl (.c s_int rfl .nil))))) rfl (.c (s_list W.K (.c s_int rfl (.c s_int rfl (.c s_int rfl (.c s_int rfl .nil))))) rfl .nil))))) rfl rfl rfl)
(s_cons (v_asg1 W (v_an W 5 Sc_law_table_5) (s_bin W.K s_int (s_bin W.K (v_it W (v_loc 2 Sc_law_table_2) s_int rfl) s_int)) rfl rfl rfl)
(s_cons (v_asg1 W (v_an W 6 Sc_law_table_6) s_int rfl rfl rfl)
(s_cons (v_for W (v_range W Sc_law_table_10 (.c s_int rfl .nil)) (v_an W 7 Sc_law_table_7) rfl rfl
(s_cons (v_asg1 W (a_sub W.K (v_it W (v_loc 4 Sc_law_table_4) (v_loc 7 Sc_law_table_7) rfl) (v_loc 7 Sc_law_table_7)) (s_bin W.K (s_bin W.K (s_bin W.K s_int (s_bin W.K s_int (s_bin W.K (s_bin W.K (v_it W (v_loc 2 Sc_law_table_2) s_int rfl) s_int) s_int))) (v_it W (v_loc 1 Sc_law_table_1) (v_loc 7 Sc_law_table_7) rfl)) (s_bin W.K s_int (s_bin W.K (v_loc 5 Sc_law_table_5) (s_bin W.K s_int (s_bin W.K s_int (v_loc 7 Sc_law_table_7)))))) rfl rfl rfl)
(s_cons (v_for W (v_range W Sc_law_table_10 (.c (v_loc 7 Sc_law_table_7) rfl .nil)) (v_an W 8 Sc_law_table_8) rfl rfl
(s_cons (v_asg1 W (v_an W 9 Sc_law_table_9) (v_call W W.f__law_entry h__law_entry Sc_law_table_11 (.c (v_loc 0 Sc_law_table_0) rfl (.c (v_it W (v_loc 3 Sc_law_table_3) (v_loc 8 Sc_law_table_8) rfl) rfl (.c (v_it W (v_loc 3 Sc_law_table_3) (v_loc 7 Sc_law_table_7) rfl) rfl (.c (v_it W (v_loc 2 Sc_law_table_2) s_int rfl) rfl (.c (v_loc 6 Sc_law_table_6) rfl .nil)))))) rfl rfl rfl)
(s_cons (s_if (s_cmpB W.K (v_loc 9 Sc_law_table_9) s_int rfl)
(s_cons (s_ret (s_list W.K .nil))
s_nil)
s_nil)
(s_cons (v_asg1 W (a_sub W.K (v_it W (v_loc 4 Sc_law_table_4) (v_loc 8 Sc_law_table_8) rfl) (v_loc 7 Sc_law_table_7)) (v_loc 9 Sc_law_table_9) rfl rfl rfl)
(s_cons (v_asg1 W (a_sub W.K (v_it W (v_loc 4 Sc_law_table_4) (v_loc 7 Sc_law_table_7) rfl) (v_loc 8 Sc_law_table_8)) (s_un (v_loc 9 Sc_law_table_9)) rfl rfl rfl)
(s_cons (v_aug W 6 Sc_law_table_6 s_int)
s_nil))))))
s_nil)))
(s_cons (s_ret (v_loc 4 Sc_law_table_4))
s_nil))))))⟩
noncomputable abbrev Sc_law_due:Scope:=fdScope (st 31)
theorem Sc_law_due_0:NameOk Sc_law_due 0 (Str.ofString "prepared") .cell:= .of (by kernel_rfl)
theorem Sc_law_due_1:NameOk Sc_law_due 1 (Str.ofString "weights") .local:= .of (by kernel_rfl)
theorem Sc_law_due_2:NameOk Sc_law_due 2 (Str.ofString "names") .local:= .of (by kernel_rfl)
theorem Sc_law_due_3:NameOk Sc_law_due 3 (Str.ofString "place") .local:= .of (by kernel_rfl)
theorem Sc_law_due_4:NameOk Sc_law_due 4 (Str.ofString "mates") .local:= .of (by kernel_rfl)
theorem Sc_law_due_5:NameOk Sc_law_due 5 (Str.ofString "due") .local:= .of (by kernel_rfl)
theorem Sc_law_due_6:NameOk Sc_law_due 6 (Str.ofString "weight") .local:= .of (by kernel_rfl)
theorem Sc_law_due_7:NameOk Sc_law_due 7 (Str.ofString "kept") .local:= .of (by kernel_rfl)
theorem Sc_law_due_8:NameOk Sc_law_due 8 (Str.ofString "i") .local:= .of (by kernel_rfl)
theorem Sc_law_due_9:NameOk Sc_law_due 9 (Str.ofString "range") .globalImplicit:= .of (by kernel_rfl)
theorem Sc_law_due_10:NameOk Sc_law_due 10 (Str.ofString "_law_rings") .globalImplicit:= .of (by kernel_rfl)
noncomputable def W_law_due (W:Wk C) {T__law_rings:Con} (h__law_rings:FnSound C k W.a__law_rings T__law_rings):{P:PT Fl // SoundS C k Sc_law_due P (fdBody (st 31))}:=⟨_,
(s_cons (v_asg1 W (v_an W 2 Sc_law_due_2) (s_list W.K (.c s_str rfl (.c s_str rfl (.c s_str rfl (.c s_str rfl .nil))))) rfl rfl rfl)
(s_cons (v_asgComp W [none,none,none,some 0] [Str.ofString "place"] (by kernel_rfl) 4 Sc_law_due_4 (v_range W Sc_law_due_9 (.c s_int rfl .nil)) (v_afc W 1 (.of (i:=1) (by kernel_rfl))) .none (v_it W (v_comp W [none,none,some 1,some 3] [] (by kernel_rfl) (v_range W (.of (i:=2) (by kernel_rfl)) (.c s_int rfl .nil)) (v_afn W 1 (.of (i:=1) (by kernel_rfl))) (.one (s_boolop (.cons (s_cmpB W.K (v_loc 1 (.of (i:=1) (by kernel_rfl))) (v_cel 2 (.of (i:=2) (by kernel_rfl))) rfl) (.cons (s_cmpB W.K (v_it W (v_cel 3 (.of (i:=3) (by kernel_rfl))) (v_loc 1 (.of (i:=1) (by kernel_rfl))) rfl) (v_it W (v_cel 3 (.of (i:=3) (by kernel_rfl))) (v_cel 2 (.of (i:=2) (by kernel_rfl))) rfl) rfl) .nil)))) (v_loc 1 (.of (i:=1) (by kernel_rfl))) rfl) s_int rfl) rfl (fun env e=>by cases env;cases e;kernel_rfl))
(s_cons (v_asg1 W (v_an W 5 Sc_law_due_5) (s_list W.K .nil) rfl rfl rfl)
(s_cons (v_for W (v_range W Sc_law_due_9 (.c s_int rfl .nil)) (v_an W 3 Sc_law_due_3) rfl rfl
(s_cons (v_asg1 W (v_an W 6 Sc_law_due_6) s_int rfl rfl rfl)
(s_cons (v_asg1 W (v_an W 7 Sc_law_due_7) (s_list W.K .nil) rfl rfl rfl)
(s_cons (v_for W (v_range W Sc_law_due_9 (.c s_int rfl .nil)) (v_an W 8 Sc_law_due_8) rfl rfl
(s_cons (s_if (s_cmpB W.K (s_bin W.K (s_bin W.K (v_loc 3 Sc_law_due_3) (s_bin W.K s_int (s_bin W.K s_int (v_loc 8 Sc_law_due_8)))) s_int) s_int rfl)
(s_cons (v_aug W 6 Sc_law_due_6 (v_it W (v_loc 1 Sc_law_due_1) (v_loc 8 Sc_law_due_8) rfl))
s_nil)
(s_cons (v_expr (v_m1 W .append (v_loc 7 Sc_law_due_7) (v_it W (v_loc 2 Sc_law_due_2) (v_loc 8 Sc_law_due_8) rfl) rfl rfl rfl rfl) rfl)
s_nil))
s_nil))
(s_cons (v_expr (v_m1 W .append (v_loc 5 Sc_law_due_5) (s_ifE (s_cmpB W.K (v_call W W.f__law_rings h__law_rings Sc_law_due_10 (.c (v_cel 0 Sc_law_due_0) rfl (.c (v_loc 4 Sc_law_due_4) rfl (.c (v_loc 7 Sc_law_due_7) rfl .nil)))) s_int rfl) (v_loc 6 Sc_law_due_6) s_int) rfl rfl rfl rfl) rfl)
s_nil)))))
(s_cons (s_ret (v_loc 5 Sc_law_due_5))
s_nil)))))⟩
noncomputable abbrev Sclaw:Scope:=fdScope (st 32)
theorem Sclaw_0:NameOk Sclaw 0 (Str.ofString "script") .local:= .of (by kernel_rfl)
theorem Sclaw_1:NameOk Sclaw 1 (Str.ofString "cells") .cell:= .of (by kernel_rfl)
theorem Sclaw_2:NameOk Sclaw 2 (Str.ofString "word") .local:= .of (by kernel_rfl)
theorem Sclaw_3:NameOk Sclaw 3 (Str.ofString "stays") .local:= .of (by kernel_rfl)
theorem Sclaw_4:NameOk Sclaw 4 (Str.ofString "stay") .local:= .of (by kernel_rfl)
theorem Sclaw_5:NameOk Sclaw 5 (Str.ofString "typed") .local:= .of (by kernel_rfl)
theorem Sclaw_6:NameOk Sclaw 6 (Str.ofString "prepared") .local:= .of (by kernel_rfl)
theorem Sclaw_7:NameOk Sclaw 7 (Str.ofString "weights") .local:= .of (by kernel_rfl)
theorem Sclaw_8:NameOk Sclaw 8 (Str.ofString "rows") .local:= .of (by kernel_rfl)
theorem Sclaw_9:NameOk Sclaw 9 (Str.ofString "width") .local:= .of (by kernel_rfl)
theorem Sclaw_10:NameOk Sclaw 10 (Str.ofString "last") .local:= .of (by kernel_rfl)
theorem Sclaw_11:NameOk Sclaw 11 (Str.ofString "_law_cells") .globalImplicit:= .of (by kernel_rfl)
theorem Sclaw_12:NameOk Sclaw 12 (Str.ofString "_law_word") .globalImplicit:= .of (by kernel_rfl)
theorem Sclaw_13:NameOk Sclaw 13 (Str.ofString "chr") .globalImplicit:= .of (by kernel_rfl)
theorem Sclaw_14:NameOk Sclaw 14 (Str.ofString "_law_typed") .globalImplicit:= .of (by kernel_rfl)
theorem Sclaw_15:NameOk Sclaw 15 (Str.ofString "_levenshtein_distance") .globalImplicit:= .of (by kernel_rfl)
theorem Sclaw_16:NameOk Sclaw 16 (Str.ofString "range") .globalImplicit:= .of (by kernel_rfl)
theorem Sclaw_17:NameOk Sclaw 17 (Str.ofString "_law_table") .globalImplicit:= .of (by kernel_rfl)
theorem Sclaw_18:NameOk Sclaw 18 (Str.ofString "_int2digits") .globalImplicit:= .of (by kernel_rfl)
theorem Sclaw_19:NameOk Sclaw 19 (Str.ofString "_law_cleared") .globalImplicit:= .of (by kernel_rfl)
theorem Sclaw_20:NameOk Sclaw 20 (Str.ofString "_law_due") .globalImplicit:= .of (by kernel_rfl)
noncomputable abbrev Scin_table_b1:Scope:=fdScope (st 13)
theorem Scin_table_b1_0:NameOk Scin_table_b1 0 (Str.ofString "code") .local:= .of (by kernel_rfl)
theorem Scin_table_b1_1:NameOk Scin_table_b1 1 (Str.ofString "ord") .globalImplicit:= .of (by kernel_rfl)
theorem Scin_table_b1_2:NameOk Scin_table_b1 2 (Str.ofString "b1_set") .globalImplicit:= .of (by kernel_rfl)
noncomputable def Win_table_b1 (W:Wk C) (T:Wt C W):{P:PT Fl // SoundS C k Scin_table_b1 P (fdBody (st 13))}:=⟨_,
(s_cons (s_ret (v_inset W T (v_bi W .ord W.m_ord W.b_ord Scin_table_b1_1 (.c (v_loc 0 Scin_table_b1_0) rfl .nil)) Scin_table_b1_2))
s_nil)⟩
noncomputable abbrev Scmap_table_b3:Scope:=fdScope (st 15)
theorem Scmap_table_b3_0:NameOk Scmap_table_b3 0 (Str.ofString "code") .local:= .of (by kernel_rfl)
theorem Scmap_table_b3_1:NameOk Scmap_table_b3 1 (Str.ofString "r") .local:= .of (by kernel_rfl)
theorem Scmap_table_b3_2:NameOk Scmap_table_b3 2 (Str.ofString "b3_exceptions") .globalImplicit:= .of (by kernel_rfl)
theorem Scmap_table_b3_3:NameOk Scmap_table_b3 3 (Str.ofString "ord") .globalImplicit:= .of (by kernel_rfl)
noncomputable def Wmap_table_b3 (W:Wk C) (T:Wt C W):{P:PT Fl // SoundS C k Scmap_table_b3 P (fdBody (st 15))}:=⟨_,
(s_cons (v_asg1 W (v_an W 1 Scmap_table_b3_1) (v_dget W T (v_bi W .ord W.m_ord W.b_ord Scmap_table_b3_3 (.c (v_loc 0 Scmap_table_b3_0) rfl .nil)) Scmap_table_b3_2 rfl rfl) rfl rfl rfl)
(s_cons (s_if (s_cmpB W.K (v_loc 1 Scmap_table_b3_1) s_none rfl)
(s_cons (s_ret (v_loc 1 Scmap_table_b3_1))
s_nil)
s_nil)
(s_cons (s_ret (v_m0 W .lower (v_loc 0 Scmap_table_b3_0) rfl rfl rfl))
s_nil)))⟩
noncomputable abbrev Sc_law_typed:Scope:=fdScope (st 25)
theorem Sc_law_typed_0:NameOk Sc_law_typed 0 (Str.ofString "word") .local:= .of (by kernel_rfl)
theorem Sc_law_typed_1:NameOk Sc_law_typed 1 (Str.ofString "draw") .local:= .of (by kernel_rfl)
theorem Sc_law_typed_2:NameOk Sc_law_typed 2 (Str.ofString "hidden") .local:= .of (by kernel_rfl)
theorem Sc_law_typed_3:NameOk Sc_law_typed 3 (Str.ofString "great") .local:= .of (by kernel_rfl)
theorem Sc_law_typed_4:NameOk Sc_law_typed 4 (Str.ofString "joined") .local:= .of (by kernel_rfl)
theorem Sc_law_typed_5:NameOk Sc_law_typed 5 (Str.ofString "text") .local:= .of (by kernel_rfl)
theorem Sc_law_typed_6:NameOk Sc_law_typed 6 (Str.ofString "place") .local:= .of (by kernel_rfl)
theorem Sc_law_typed_7:NameOk Sc_law_typed 7 (Str.ofString "letter") .local:= .of (by kernel_rfl)
theorem Sc_law_typed_8:NameOk Sc_law_typed 8 (Str.ofString "pair") .local:= .of (by kernel_rfl)
theorem Sc_law_typed_9:NameOk Sc_law_typed 9 (Str.ofString "way") .local:= .of (by kernel_rfl)
theorem Sc_law_typed_10:NameOk Sc_law_typed 10 (Str.ofString "list") .globalImplicit:= .of (by kernel_rfl)
theorem Sc_law_typed_11:NameOk Sc_law_typed 11 (Str.ofString "range") .globalImplicit:= .of (by kernel_rfl)
theorem Sc_law_typed_12:NameOk Sc_law_typed 12 (Str.ofString "chr") .globalImplicit:= .of (by kernel_rfl)
theorem Sc_law_typed_13:NameOk Sc_law_typed 13 (Str.ofString "ord") .globalImplicit:= .of (by kernel_rfl)
noncomputable def W_law_typed (W:Wk C):{P:PT Fl // SoundS C k Sc_law_typed P (fdBody (st 25))}:=⟨_,
(s_cons (v_asg1 W (v_an W 2 Sc_law_typed_2) (s_bin W.K (s_list W.K (.c s_int rfl (.c s_int rfl (.c s_int rfl (.c s_int rfl (.c s_int rfl (.c s_int rfl (.c s_int rfl (.c s_int rfl (.c s_int rfl (.c s_int rfl (.c s_int rfl .nil)))))))))))) (v_lrange W Sc_law_typed_11 Sc_law_typed_10 (.c s_int rfl (.c s_int rfl .nil)))) rfl rfl rfl)
(s_cons (v_asg1 W (v_an W 3 Sc_law_typed_3) (s_list W.K (.c s_int rfl (.c s_int rfl (.c s_int rfl (.c s_int rfl (.c s_int rfl (.c s_int rfl (.c s_int rfl (.c s_int rfl (.c s_int rfl (.c s_int rfl .nil))))))))))) rfl rfl rfl)
(s_cons (v_asg1 W (v_an W 4 Sc_law_typed_4) (v_dict W (.cons (.cons (.cons (.cons .nil)))) (by decide+kernel) (fun h=>nomatch h) (by decide)) rfl rfl rfl)
(s_cons (v_asg1 W (v_an W 5 Sc_law_typed_5) s_str rfl rfl rfl)
(s_cons (v_asg1 W (v_an W 6 Sc_law_typed_6) s_int rfl rfl rfl)
(s_cons (s_while (s_cmpB W.K (v_loc 6 Sc_law_typed_6) s_int rfl)
(s_cons (v_asg1 W (v_an W 7 Sc_law_typed_7) (v_it W (v_loc 0 Sc_law_typed_0) (v_loc 6 Sc_law_typed_6) rfl) rfl rfl rfl)
(s_cons (v_asg1 W (v_an W 8 Sc_law_typed_8) (v_m1 W .join s_str (s_sl W.K (v_loc 0 Sc_law_typed_0) (.some (v_loc 6 Sc_law_typed_6)) (.some (s_bin W.K (v_loc 6 Sc_law_typed_6) s_int))) rfl rfl rfl rfl) rfl rfl rfl)
(s_cons (v_asg1 W (v_an W 9 Sc_law_typed_9) (s_bin W.K (v_loc 1 Sc_law_typed_1) s_int) rfl rfl rfl)
(s_cons (v_aug W 1 Sc_law_typed_1 s_int)
(s_cons (s_if (s_cmpB W.K (v_loc 9 Sc_law_typed_9) s_int rfl)
(s_cons (v_aug W 5 Sc_law_typed_5 (s_bin W.K (v_loc 7 Sc_law_typed_7) (v_bi W .chr W.m_chr W.b_chr Sc_law_typed_12 (.c (v_it W (v_loc 2 Sc_law_typed_2) (v_loc 9 Sc_law_typed_9) rfl) rfl .nil))))
s_nil)
(s_cons (s_if (s_cmpB W.K (v_loc 9 Sc_law_typed_9) s_int rfl)
(s_cons (v_aug W 5 Sc_law_typed_5 (v_bi W .chr W.m_chr W.b_chr Sc_law_typed_12 (.c (s_bin W.K (s_bin W.K (v_it W (v_loc 3 Sc_law_typed_3) (s_bin W.K (v_loc 9 Sc_law_typed_9) s_int) rfl) (v_bi W .ord W.m_ord W.b_ord Sc_law_typed_13 (.c (v_loc 7 Sc_law_typed_7) rfl .nil))) s_int) rfl .nil)))
s_nil)
(s_cons (s_if (s_boolop (.cons (s_cmpB W.K (v_loc 9 Sc_law_typed_9) s_int rfl) (.cons (v_inJB W (J:=lookJ joinedL) (v_loc 8 Sc_law_typed_8) (v_loc 4 Sc_law_typed_4) rfl) .nil)))
(s_cons (v_aug W 5 Sc_law_typed_5 (v_bi W .chr W.m_chr W.b_chr Sc_law_typed_12 (.c (v_itJ W (J:=lookJ joinedL) (v_loc 4 Sc_law_typed_4) (v_loc 8 Sc_law_typed_8) rfl) rfl .nil)))
(s_cons (v_aug W 6 Sc_law_typed_6 s_int)
s_nil))
(s_cons (v_aug W 5 Sc_law_typed_5 (v_m0 W .upper (v_loc 7 Sc_law_typed_7) rfl rfl rfl))
s_nil))
s_nil))
s_nil))
(s_cons (v_aug W 6 Sc_law_typed_6 s_int)
s_nil)))))))
(s_cons (s_ret (v_loc 5 Sc_law_typed_5))
s_nil)))))))⟩
noncomputable abbrev Sc_strip_quoted_realnames:Scope:=fdScope (st 10)
theorem Sc_strip_quoted_realnames_0:NameOk Sc_strip_quoted_realnames 0 (Str.ofString "addr") .local:= .of (by kernel_rfl)
theorem Sc_strip_quoted_realnames_1:NameOk Sc_strip_quoted_realnames 1 (Str.ofString "start") .local:= .of (by kernel_rfl)
theorem Sc_strip_quoted_realnames_2:NameOk Sc_strip_quoted_realnames 2 (Str.ofString "open_pos") .local:= .of (by kernel_rfl)
theorem Sc_strip_quoted_realnames_3:NameOk Sc_strip_quoted_realnames 3 (Str.ofString "result") .local:= .of (by kernel_rfl)
theorem Sc_strip_quoted_realnames_4:NameOk Sc_strip_quoted_realnames 4 (Str.ofString "pos") .local:= .of (by kernel_rfl)
theorem Sc_strip_quoted_realnames_5:NameOk Sc_strip_quoted_realnames 5 (Str.ofString "ch") .local:= .of (by kernel_rfl)
theorem Sc_strip_quoted_realnames_6:NameOk Sc_strip_quoted_realnames 6 (Str.ofString "_iter_escaped_chars") .globalImplicit:= .of (by kernel_rfl)
theorem Sc_strip_quoted_realnames_7:NameOk Sc_strip_quoted_realnames 7 (Str.ofString "len") .globalImplicit:= .of (by kernel_rfl)
noncomputable def W_strip_quoted_realnames (W:Wk C) (hG:C.gOk=AllBare):{P:PT Fl // SoundS C (k+4) Sc_strip_quoted_realnames P (fdBody (st 10))}:=⟨_,
(s_cons (s_if (s_cmpB W.K s_str (v_loc 0 Sc_strip_quoted_realnames_0) rfl)
(s_cons (s_ret (v_loc 0 Sc_strip_quoted_realnames_0))
s_nil)
s_nil)
(s_cons (v_asg1 W (v_an W 1 Sc_strip_quoted_realnames_1) s_int rfl rfl rfl)
(s_cons (v_asg1 W (v_an W 2 Sc_strip_quoted_realnames_2) s_none rfl rfl rfl)
(s_cons (v_asg1 W (v_an W 3 Sc_strip_quoted_realnames_3) (s_list W.K .nil) rfl rfl rfl)
(s_cons (s_forG W hG Sc_strip_quoted_realnames_6 (.c (v_loc 0 Sc_strip_quoted_realnames_0) rfl .nil) (fun p=>(a_tup (W.pin p).K (.c (v_an (W.pin p) 4 Sc_strip_quoted_realnames_4) rfl (.c (v_an (W.pin p) 5 Sc_strip_quoted_realnames_5) rfl .nil)))) (fun p=>(s_cons (s_if (s_cmpB (W.pin p).K (v_loc 5 Sc_strip_quoted_realnames_5) s_str rfl)
(s_cons (s_if (s_cmpB (W.pin p).K (v_loc 2 Sc_strip_quoted_realnames_2) s_none rfl)
(s_cons (v_asg1 (W.pin p) (v_an (W.pin p) 2 Sc_strip_quoted_realnames_2) (v_loc 4 Sc_strip_quoted_realnames_4) rfl rfl rfl)
s_nil)
(s_cons (s_if (s_cmpB (W.pin p).K (v_loc 1 Sc_strip_quoted_realnames_1) (v_loc 2 Sc_strip_quoted_realnames_2) rfl)
(s_cons (v_expr (v_m1 (W.pin p) .append (v_loc 3 Sc_strip_quoted_realnames_3) (s_sl (W.pin p).K (v_loc 0 Sc_strip_quoted_realnames_0) (.some (v_loc 1 Sc_strip_quoted_realnames_1)) (.some (v_loc 2 Sc_strip_quoted_realnames_2))) rfl rfl rfl rfl) rfl)
s_nil)
s_nil)
(s_cons (v_asg1 (W.pin p) (v_an (W.pin p) 1 Sc_strip_quoted_realnames_1) (s_bin (W.pin p).K (v_loc 4 Sc_strip_quoted_realnames_4) s_int) rfl rfl rfl)
(s_cons (v_asg1 (W.pin p) (v_an (W.pin p) 2 Sc_strip_quoted_realnames_2) s_none rfl rfl rfl)
s_nil))))
s_nil)
s_nil)
s_nil)) ro_pair)
(s_cons (s_if (s_cmpB W.K (v_loc 1 Sc_strip_quoted_realnames_1) (v_bi W .len W.m_len W.b_len Sc_strip_quoted_realnames_7 (.c (v_loc 0 Sc_strip_quoted_realnames_0) rfl .nil)) rfl)
(s_cons (v_expr (v_m1 W .append (v_loc 3 Sc_strip_quoted_realnames_3) (s_sl W.K (v_loc 0 Sc_strip_quoted_realnames_0) (.some (v_loc 1 Sc_strip_quoted_realnames_1)) .none) rfl rfl rfl rfl) rfl)
s_nil)
s_nil)
(s_cons (s_ret (v_m1 W .join s_str (v_loc 3 Sc_strip_quoted_realnames_3) rfl rfl rfl rfl))
s_nil)))))))⟩
noncomputable abbrev Sc_law_entry:Scope:=fdScope (st 27)
theorem Sc_law_entry_0:NameOk Sc_law_entry 0 (Str.ofString "prepared") .local:= .of (by kernel_rfl)
theorem Sc_law_entry_1:NameOk Sc_law_entry 1 (Str.ofString "one") .local:= .of (by kernel_rfl)
theorem Sc_law_entry_2:NameOk Sc_law_entry 2 (Str.ofString "other") .local:= .of (by kernel_rfl)
theorem Sc_law_entry_3:NameOk Sc_law_entry 3 (Str.ofString "cell") .local:= .of (by kernel_rfl)
theorem Sc_law_entry_4:NameOk Sc_law_entry 4 (Str.ofString "number") .local:= .of (by kernel_rfl)
theorem Sc_law_entry_5:NameOk Sc_law_entry 5 (Str.ofString "line") .local:= .of (by kernel_rfl)
theorem Sc_law_entry_6:NameOk Sc_law_entry 6 (Str.ofString "kept") .cell:= .of (by kernel_rfl)
theorem Sc_law_entry_7:NameOk Sc_law_entry 7 (Str.ofString "units") .local:= .of (by kernel_rfl)
theorem Sc_law_entry_8:NameOk Sc_law_entry 8 (Str.ofString "known") .cell:= .of (by kernel_rfl)
theorem Sc_law_entry_9:NameOk Sc_law_entry 9 (Str.ofString "bare") .local:= .of (by kernel_rfl)
theorem Sc_law_entry_10:NameOk Sc_law_entry 10 (Str.ofString "due") .local:= .of (by kernel_rfl)
theorem Sc_law_entry_11:NameOk Sc_law_entry 11 (Str.ofString "bound") .local:= .of (by kernel_rfl)
theorem Sc_law_entry_12:NameOk Sc_law_entry 12 (Str.ofString "_law_line") .globalImplicit:= .of (by kernel_rfl)
theorem Sc_law_entry_13:NameOk Sc_law_entry 13 (Str.ofString "list") .globalImplicit:= .of (by kernel_rfl)
theorem Sc_law_entry_14:NameOk Sc_law_entry 14 (Str.ofString "_iter_escaped_chars") .globalImplicit:= .of (by kernel_rfl)
theorem Sc_law_entry_15:NameOk Sc_law_entry 15 (Str.ofString "_strip_quoted_realnames") .globalImplicit:= .of (by kernel_rfl)
theorem Sc_law_entry_16:NameOk Sc_law_entry 16 (Str.ofString "range") .globalImplicit:= .of (by kernel_rfl)
theorem Sc_law_entry_17:NameOk Sc_law_entry 17 (Str.ofString "len") .globalImplicit:= .of (by kernel_rfl)
theorem Sc_law_entry_18:NameOk Sc_law_entry 18 (Str.ofString "_levenshtein_distance") .globalImplicit:= .of (by kernel_rfl)
noncomputable def W_law_entry (W:Wk C) {T__law_line:Con} (h__law_line:FnSound C (k+4) W.a__law_line T__law_line) {T__levenshtein_distance:Con} (h__levenshtein_distance:FnSound C (k+4) W.a__levenshtein_distance T__levenshtein_distance) {T__strip_quoted_realnames:Con} (h__strip_quoted_realnames:FnSound C (k+4) W.a__strip_quoted_realnames T__strip_quoted_realnames) (hG:C.gOk=AllBare):{P:PT Fl // SoundS C (k+4) Sc_law_entry P (fdBody (st 27))}:=⟨_,
(s_cons (v_asg1 W (a_tup W.K (.c (v_an W 5 Sc_law_entry_5) rfl (.c (v_ac W 6 Sc_law_entry_6) rfl .nil))) (v_call W W.f__law_line h__law_line Sc_law_entry_12 (.c (v_loc 0 Sc_law_entry_0) rfl (.c (s_bin W.K (v_loc 1 Sc_law_entry_1) (v_loc 2 Sc_law_entry_2)) rfl (.c (v_loc 3 Sc_law_entry_3) rfl .nil)))) rfl rfl rfl)
(s_cons (v_asg1 W (v_an W 7 Sc_law_entry_7) (s_listG W hG Sc_law_entry_14 Sc_law_entry_13 (.c (v_call W W.f__strip_quoted_realnames h__strip_quoted_realnames Sc_law_entry_15 (.c (v_loc 5 Sc_law_entry_5) rfl .nil)) rfl .nil)) rfl rfl rfl)
(s_cons (s_if (s_cmpB W.K (v_loc 7 Sc_law_entry_7) (v_comp W [none,none,none,some 6] [] (by kernel_rfl) (v_range W Sc_law_entry_16 (.c (v_bi W .len W.m_len W.b_len Sc_law_entry_17 (.c (v_cel 6 Sc_law_entry_6) rfl .nil)) rfl .nil)) (v_afn W 1 (.of (i:=1) (by kernel_rfl))) .none (s_tup W.K (.c (s_bin W.K (v_bi W .len W.m_len W.b_len (.of (i:=2) (by kernel_rfl)) (.c (v_m1 W .join s_str (s_sl W.K (v_cel 3 (.of (i:=3) (by kernel_rfl))) .none (.some (s_bin W.K (v_loc 1 (.of (i:=1) (by kernel_rfl))) s_int))) rfl rfl rfl rfl) rfl .nil)) s_int) rfl (.c (v_it W (v_cel 3 (.of (i:=3) (by kernel_rfl))) (v_loc 1 (.of (i:=1) (by kernel_rfl))) rfl) rfl .nil))) rfl) rfl)
(s_cons (s_ret s_int)
s_nil)
s_nil)
(s_cons (v_asg1 W (v_ac W 8 Sc_law_entry_8) (s_list W.K (.c s_str rfl (.c s_str rfl (.c s_str rfl (.c s_str rfl (.c s_str rfl (.c s_str rfl (.c s_str rfl (.c s_str rfl .nil))))))))) rfl rfl rfl)
(s_cons (v_asg1 W (v_an W 9 Sc_law_entry_9) (v_m1 W .join s_str (v_comp W [none,none,none,some 8] [] (by kernel_rfl) (i_list W.K (v_loc 7 Sc_law_entry_7)) (v_afp W 1 2 (.of (i:=1) (by kernel_rfl)) (.of (i:=2) (by kernel_rfl))) (.one (s_cmpB W.K (v_loc 2 (.of (i:=2) (by kernel_rfl))) (v_cel 3 (.of (i:=3) (by kernel_rfl))) rfl)) (v_loc 2 (.of (i:=2) (by kernel_rfl))) rfl) rfl rfl rfl rfl) rfl rfl rfl)
(s_cons (v_asg1 W (v_an W 10 Sc_law_entry_10) (s_bin W.K (s_bin W.K (s_bin W.K (v_m0 W .upper (v_loc 1 Sc_law_entry_1) rfl rfl rfl) (v_m0 W .upper (v_loc 2 Sc_law_entry_2) rfl rfl rfl)) (v_loc 1 Sc_law_entry_1)) (v_loc 2 Sc_law_entry_2)) rfl rfl rfl)
(s_cons (v_asg1 W (v_an W 11 Sc_law_entry_11) (s_bin W.K s_int (s_bin W.K (s_bin W.K (v_loc 3 Sc_law_entry_3) s_int) s_int)) rfl rfl rfl)
(s_cons (s_if (s_boolop (.cons (s_cmpB W.K (v_loc 4 Sc_law_entry_4) (s_bin W.K (s_bin W.K (v_loc 3 Sc_law_entry_3) s_int) s_int) rfl) (.cons (s_cmpB W.K (v_call W W.f__levenshtein_distance h__levenshtein_distance Sc_law_entry_18 (.c (s_sl W.K (v_loc 0 Sc_law_entry_0) .none (.some s_int)) rfl (.c (v_m0 W .lower (v_loc 9 Sc_law_entry_9) rfl rfl rfl) rfl (.c s_int rfl .nil)))) s_int rfl) .nil)))
(s_cons (s_ret s_int)
s_nil)
s_nil)
(s_cons (s_if (s_cmpB W.K (s_bin W.K (v_loc 4 Sc_law_entry_4) s_int) s_int rfl)
(s_cons (s_ret (v_it W (s_list W.K (.c s_int rfl (.c s_int rfl (.c s_int rfl (.c s_int rfl (.c s_int rfl (.c (s_un s_int) rfl (.c s_int rfl .nil)))))))) (v_call W W.f__levenshtein_distance h__levenshtein_distance Sc_law_entry_18 (.c (v_loc 10 Sc_law_entry_10) rfl (.c (v_loc 9 Sc_law_entry_9) rfl (.c (v_loc 11 Sc_law_entry_11) rfl .nil)))) rfl))
s_nil)
s_nil)
(s_cons (s_ret (v_it W (s_list W.K (.c s_int rfl (.c s_int rfl (.c s_int rfl (.c s_int rfl (.c s_int rfl (.c (s_un s_int) rfl (.c s_int rfl .nil)))))))) (v_call W W.f__levenshtein_distance h__levenshtein_distance Sc_law_entry_18 (.c (v_loc 9 Sc_law_entry_9) rfl (.c (v_loc 10 Sc_law_entry_10) rfl (.c (v_loc 11 Sc_law_entry_11) rfl .nil)))) rfl))
s_nil))))))))))⟩
end
end
section
open PySem PySem.Spec PySem.Calls PyProof.Rows PySem.W
section
theorem div_unique {a b q r:Int} (h:q*b+r=a) (h0:0≤r) (h1:r<b):q=a/b∧r=a%b:=by
 have hb:0<b:=by lia
 have e1:a/b=q:=by
  rw[←h,Int.add_comm,Int.add_mul_ediv_right _ _ (by lia),Int.ediv_eq_zero_of_lt h0 h1,Int.zero_add]
 have e2:a%b=r:=by
  rw[←h,Int.add_comm,Int.add_mul_emod_self_right,Int.emod_eq_of_lt h0 h1]
 exact ⟨e1.symm,e2.symm⟩
theorem divN {a b:Nat} {q r:Int} (h:q*b+r=a) (h0:0≤r) (h1:r<b):q=((a/b:Nat):Int)∧r=((a%b:Nat):Int):=by
 have:=div_unique h h0 h1
 rw[Int.natCast_ediv,Int.natCast_emod]
 exact this
end
end
section
open PySem PySem.Spec PySem.Calls PyProof.Rows PySem.W
section
variable {C:Ctx} {k:Nat}
inductive T_div2 (d:Nat) (ds:List V) (Q:V→St→Prop) (σ:St):Prop
 |mk (a b n:Nat) (h1:ds=[.int (a:Int),.int (b:Int),.int (n:Int)]) (h2:0<n) (h3:2^(n-1)≤b) (h4:b<2^n) (h5:a<2^n*b) (h6:n≤4000*2^d) (h7:n≤2^20) (h8:Q (.tup [.int ((a/b:Nat):Int),.int ((a%b:Nat):Int)]) σ):T_div2 d ds Q σ
inductive T_div3 (d:Nat) (ds:List V) (Q:V→St→Prop) (σ:St):Prop
 |mk (a12 a3 b1 b2 n:Nat) (h1:ds=[.int (a12:Int),.int (a3:Int),.int ((b1*2^n+b2:Nat):Int),.int (b1:Int),.int (b2:Int),.int (n:Int)]) (h2:0<n) (h3:2^(n-1)≤b1) (h4:b1<2^n) (h5:b2<2^n) (h6:a12<b1*2^n+b2) (h7:a3<2^n) (h8:n≤4000*2^d) (h9:n≤2^20) (h10:Q (.tup [.int (((a12*2^n+a3)/(b1*2^n+b2):Nat):Int),.int (((a12*2^n+a3)%(b1*2^n+b2):Nat):Int)]) σ):T_div3 d ds Q σ
theorem bits_of {X m:Nat} (h:X<2^m):Builtin.Int.intBits (X:Int)≤m:=n_bits.mpr h
inductive D3I (A B:Nat) (σ:St) (m:Nat) (σ':St):Prop
 |mk (x y:Int) (h6:σ'.vars 6=some (.int x)) (h7:σ'.vars 7=some (.int y)) (h2:σ'.vars 2=some (.int (B:Int))) (e:x*B+y=A) (ly:y<B) (hm:(-y).toNat=m) (hl:σ'.lists=σ.lists):D3I A B σ m σ'
theorem d3_pos {A B:Nat} {x y:Int} (hA:x*B+y=A) (hy:y<B):0<(B:Int):=by
 refine Int.lt_of_not_ge fun z=>?_
 have hB:(B:Int)=0:=Int.le_antisymm z (Int.natCast_nonneg B)
 rw[hB] at hA hy
 rw[Int.mul_zero,Int.zero_add] at hA
 exact absurd (Int.natCast_nonneg A) (Int.not_le.mpr (hA▸hy))
theorem d3_next {A B:Nat} {x y:Int} (hA:x*B+y=A) (hB:0<(B:Int)) (c:y<0):(x-1)*B+(y+B)=A∧y+B<B∧(-(y+B)).toNat<(-y).toNat:=by
 refine ⟨?_,by lia,by lia⟩
 rw[Int.sub_mul];lia
theorem div3_tail {A B:Nat} {q0 y:Int} {Q:Fl→St→Prop} {σ:St} (h6:σ.vars 6=some (.int q0)) (h7:σ.vars 7=some (.int y)) (h2:σ.vars 2=some (.int (B:Int))) (hA:q0*B+y=A) (hy:y<B)
  (q: ∀σ',σ'.lists=σ.lists→Q (.ret (.tup [.int ((A/B:Nat):Int),.int ((A%B:Nat):Int)])) σ'):
  ptSeq (ptWhile (ptCmp .Lt (ptVar 7) (ptInt 0)) (ptSeq (ptAug 6 .Sub (ptInt 1)) (ptSeq (ptAug 7 .Add (ptVar 2)) ptNil))) (ptSeq (ptRet (ptTup [ptVar 6,ptVar 7])) ptNil) Q σ:=by
 have hB:=d3_pos hA hy
 refine p_seqK (p_while (D3I A B σ) (-y).toNat ⟨q0,y,h6,h7,h2,hA,hy,rfl,rfl⟩ fun m σ' t=>t.casesOn fun x y g6 g7 g2 e ly hm hl=>?_)
 repeat walk_at "mine"
 by_cases c:y<0
 ·refine c_ltT c ?_
  repeat walk_at "mine"
  refine i_sub rfl ?_
  repeat walk_at "mine"
  refine i_add rfl ?_
  repeat walk_at "mine"
  have n:=d3_next e hB c
  exact ⟨(-(y+B)).toNat,hm▸n.2.2,x-1,y+B,rfl,rfl,g2,n.1,n.2.1,rfl,hl⟩
 ·refine c_ltF (Int.not_lt.mp c) ?_
  repeat walk_at "mine"
  refine ⟨Nat.le_of_ble_eq_true rfl,?_⟩
  have d:=divN (a:=A) (b:=B) e (Int.not_lt.mp c) ly
  rw[d.1,d.2]
  exact q _ hl
end
end
section
open PySem PySem.Spec PySem.Calls PyProof.Rows PySem.W
section
variable {C:Ctx} {k:Nat}
theorem con_div3 (W:Wk C) {d:Nat} (h:FnSound C k W.a__div2n1n (T_div2 d)) (ds:List V) (Q:V→St→Prop) (σ:St) (t:T_div3 d ds Q σ):fnCon 6 (W_div3n2n (k:=k) W h).1 ds Q σ:=by
 obtain ⟨a12,a3,b1,b2,n,rfl,hn,hb1,hb1',hb2,ha12,ha3,hd,hz,q⟩:=t
 refine fn_con rfl ?_
 unfold W_div3n2n
 have hp:0<2^n:=Nat.two_pow_pos n
 have hpI:(0:Int)<2^n:=by exact_mod_cast hp
 have hb0:0<b1:=Nat.lt_of_lt_of_le (Nat.two_pow_pos _) hb1
 have hz':n≤1048576:=hz
 have hmod:=Nat.div_add_mod a12 (2^n)
 have hml:=Nat.mod_lt a12 hp
 have hle:a12/2^n≤b1:=by
  refine Nat.lt_succ_iff.mp (Nat.div_lt_of_lt_mul ?_)
  rw[Nat.mul_succ,Nat.mul_comm];lia
 dsimp only
 generalize hT:(ptSeq (ptAsgs [atName 7] (ptBin Operator.Sub (ptBin Operator.BitOr (ptBin Operator.LShift (ptVar 7) (ptVar 5)) (ptVar 1)) (ptBin Operator.Mult (ptVar 6) (ptVar 4)))) (ptSeq (ptWhile (ptCmp CmpOp.Lt (ptVar 7) (ptInt 0)) (ptSeq (ptAug 6 Operator.Sub (ptInt 1)) (ptSeq (ptAug 7 Operator.Add (ptVar 2)) ptNil))) (ptSeq (ptRet (ptTup [ptVar 6,ptVar 7])) ptNil)))=T
 have fin: ∀(q1 r1:Nat) (τ:St),τ.vars 6=some (.int (q1:Int))→τ.vars 7=some (.int (r1:Int))→τ.vars 0=some (.int (a12:Int))→τ.vars 1=some (.int (a3:Int))→τ.vars 2=some (.int ((b1*2^n+b2:Nat):Int))→τ.vars 4=some (.int (b2:Int))→τ.vars 5=some (.int (n:Int))→τ.lists=σ.lists→
   q1*b1+r1=a12→q1<2^n→r1<2^(n+1)→((r1:Int)*2^n+a3-q1*b2<(b1*2^n+b2:Nat))→
   T
        (fnK Q σ)
        τ:=by
  intro q1 r1 τ g6 g7 g0 g1 g2 g4 g5 gl e1 lq lr ly
  rw[←hT]
  repeat walk_at "mine"
  refine o_shlE (n_shl r1 n) (by have:=bits_of lr;lia) ?_
  repeat walk_at "mine"
  refine o_orE (n_or r1 ha3) ?_
  repeat walk_at "mine"
  refine o_mulE rfl (mulOk (m:=0) (by have:=bits_of lq;have:=bits_of hb2;lia)) ?_
  refine o_subE rfl ?_
  repeat walk_at "mine"
  refine div3_tail (A:=a12*2^n+a3) (B:=b1*2^n+b2) g6 rfl g2 ?_ ?_ ?_
  ·rw[←e1];push_cast;grind
  ·push_cast at ly⊢;exact ly
  ·intro σ' hl
   show Q _ ⟨σ.vars,σ'.lists,σ.ro⟩
   rw[hl]
   show Q _ ⟨σ.vars,τ.lists,σ.ro⟩
   rw[gl]
   exact q
 repeat walk_at "mine"
 refine o_shrE (n_shr a12 n) ?_
 repeat walk_at "mine"
 by_cases c:a12/2^n=b1
 ·refine c_eqT (by exact_mod_cast c) ?_
  have hb:b1*2^n≤a12:=by rw[Nat.mul_comm,←c];lia
  repeat walk_at "mine"
  refine o_shlE (Int.one_mul _) (by
    have:Builtin.Int.intBits 1=1:=by kernel_rfl
    lia) ?_
  repeat walk_at "mine"
  refine o_subE (c:=((2^n-1:Nat):Int)) (by rw[n_pow];lia) ?_
  repeat walk_at "mine"
  refine o_shlE (n_shl b1 n) (by have:=bits_of hb1';lia) ?_
  refine o_subE (c:=((a12-b1*2^n:Nat):Int)) (by walk_at "a") ?_
  repeat walk_at "mine"
  refine o_addE (c:=((a12-b1*2^n+b1:Nat):Int)) (by walk_at "a") ?_
  repeat walk_at "mine"
  refine ⟨Nat.le_of_ble_eq_true rfl,_,rfl,rfl,?_⟩
  repeat walk_at "mine"
  refine fin (2^n-1) (a12-b1*2^n+b1) _ rfl rfl rfl rfl rfl rfl rfl rfl ?_ (by walk_at "a") ?_ ?_
  ·rw[Nat.sub_mul,Nat.one_mul,Nat.mul_comm (2^n)]
   have:b1≤b1*2^n:=Nat.le_mul_of_pos_right _ hp
   lia
  ·rw[Nat.pow_succ];lia
  ·obtain ⟨e,he⟩: ∃e,a12=b1*2^n+e:=⟨a12-b1*2^n,by walk_at "a"⟩
   have he2:e<b2:=by walk_at "a"
   have hx:((2^n-1:Nat):Int)=2^n-1:=by rw[n_pow];lia
   rw[hx,he,Nat.add_sub_cancel_left]
   push_cast
   have ha3':(a3:Int)<2^n:=by exact_mod_cast ha3
   have he2':((e:Int)+1)*2^n≤b2*2^n:=Int.mul_le_mul_of_nonneg_right (by walk_at "a") (by walk_at "a")
   have hz1:((e:Int)+1)*2^n=e*2^n+2^n:=by rw[Int.add_mul,Int.one_mul]
   have:((e:Int)+b1)*2^n=e*2^n+b1*2^n:=Int.add_mul ..
   have:((2:Int)^n-1)*b2=b2*2^n-b2:=by rw[Int.sub_mul,Int.one_mul,Int.mul_comm]
   lia
 ·refine c_eqF (by exact_mod_cast c) ?_
  repeat walk_at "mine"
  have hlt:a12/2^n<b1:=by walk_at "a"
  have hlt2:a12<2^n*b1:=by
   have:=Nat.mul_le_mul_left (2^n) (Nat.succ_le_of_lt hlt)
   rw[Nat.mul_succ] at this
   lia
  have hr:=Nat.mod_lt a12 hb0
  refine ⟨a12,b1,n,rfl,hn,hb1,hb1',hlt2,hd,hz,?_⟩
  repeat walk_at "mine"
  refine fin (a12/b1) (a12%b1) _ ?g1 ?g2 ?g3 ?g4 ?g5 ?g6 ?g7 ?g8 ?_ ?_ ?_ ?_
  iterate 8 exact rfl
  ·rw[Nat.mul_comm];exact Nat.div_add_mod a12 b1
  ·exact Nat.div_lt_of_lt_mul (by rw[Nat.mul_comm];exact hlt2)
  ·rw[Nat.pow_succ];lia
  ·push_cast
   have ha3':(a3:Int)<2^n:=by exact_mod_cast ha3
   have h1:(((a12%b1:Nat):Int)+1)*2^n≤b1*2^n:=Int.mul_le_mul_of_nonneg_right (by walk_at "a") (by walk_at "a")
   have h2:(((a12%b1:Nat):Int)+1)*2^n=((a12%b1:Nat):Int)*2^n+2^n:=by rw[Int.add_mul,Int.one_mul]
   have h3:(0:Int)≤((a12/b1:Nat):Int)*b2:=Int.mul_nonneg (Int.natCast_nonneg _) (Int.natCast_nonneg _)
   push_cast at h1 h2 h3
   lia
end
end
section
open PySem PySem.Spec PySem.Calls PyProof.Rows PySem.W
section
variable {C:Ctx} {k:Nat}
theorem noPylong {a b n:Nat} (h0:0<n) (hb:2^(n-1)≤b) (ha:Builtin.Int.intBits (a:Int)≤n+4000):Builtin.divisionGoesByPylong (a:Int) (b:Int)=false:=by
 unfold Builtin.divisionGoesByPylong
 have hb0:0<b:=Nat.lt_of_lt_of_le (Nat.two_pow_pos _) hb
 have h1:n-1≤b.log2:=(Nat.le_log2 (by walk_at "a")).mpr hb
 have hne:((b:Int)==0)=false:=by
  rw[beq_eq_false_iff_ne];lia
 simp only[hne,Int.natAbs_natCast]
 rw[Bool.and_eq_false_iff]
 right
 rw[decide_eq_false_iff_not]
 by_cases c:a=0
 ·subst c;simp
 ·have hne2:((a:Int)==0)=false:=by
   rw[beq_eq_false_iff_ne];lia
  have h2:a.log2<n+4000:=(Nat.log2_lt c).mpr (n_bits.mp ha)
  simp only[hne2]
  simp
  lia
theorem div2_num {A B h:Nat} (hB:0<B):(A/2^h/B)*2^h+((A/2^h%B)*2^h+A%2^h)/B=A/B∧((A/2^h%B)*2^h+A%2^h)%B=A%B∧((A/2^h%B)*2^h+A%2^h)/B<2^h:=by
 have hp:0<2^h:=Nat.two_pow_pos h
 generalize hX:A/2^h=X
 generalize hY:A%2^h=Y
 have hA:A=2^h*X+Y:=by rw[←hX,←hY];exact (Nat.div_add_mod A (2^h)).symm
 have hYl:Y<2^h:=by rw[←hY];exact Nat.mod_lt A hp
 have e:A=(X%B*2^h+Y)+B*(X/B*2^h):=by
  rw[hA]
  have:=Nat.div_add_mod X B
  calc 2^h*X+Y=2^h*(B*(X/B)+X%B)+Y:=by rw[this]
   _=_:=by grind
 refine ⟨?_,?_,?_⟩
 ·rw[e,Nat.add_mul_div_left _ _ hB];lia
 ·rw[e,Nat.add_mul_mod_self_left]
 ·refine Nat.div_lt_of_lt_mul ?_
  have:X%B+1≤B:=Nat.mod_lt X hB
  have:=Nat.mul_le_mul_right (2^h) this
  rw[Nat.add_mul,Nat.one_mul] at this
  lia
theorem top_num {B H:Nat} (hH:0<H) (h1:2^(H+H-1)≤B) (h2:B<2^(H+H)):2^(H-1)≤B/2^H∧B/2^H<2^H:=by
 have hp:0<2^H:=Nat.two_pow_pos H
 constructor
 ·rw[Nat.le_div_iff_mul_le hp,←Nat.pow_add]
  have:H-1+H=H+H-1:=by walk_at "a"
  rw[this];exact h1
 ·refine Nat.div_lt_of_lt_mul ?_
  rw[←Nat.pow_add];exact h2
theorem con_div2 (W:Wk C) {d:Nat} {T3:Con} (h:FnSound C k W.a__div3n2n T3) (h3: ∀d',d=d'+1→ ∀ds Q σ,T_div3 d' ds Q σ→T3 ds Q σ) (ds:List V) (Q:V→St→Prop) (σ:St) (t:T_div2 d ds Q σ):fnCon 3 (W_div2n1n (k:=k) W h).1 ds Q σ:=by
 obtain ⟨a,b,n,rfl,hn,hb,hb',ha,hd,hz,q⟩:=t
 refine fn_con rfl ?_
 unfold W_div2n1n
 dsimp only
 generalize hT:(ptSeq (ptAsgs [atName 4] (ptBin Operator.RShift (ptVar 2) (ptInt 1))) _:PT Fl)=T
 have hb0:0<b:=Nat.lt_of_lt_of_le (Nat.two_pow_pos _) hb
 have hz':n≤1048576:=hz
 have fin: ∀(A b1 b2 p H:Nat) (τ:St),τ.vars 0=some (.int (A:Int))→τ.vars 1=some (.int ((b1*2^H+b2:Nat):Int))→τ.vars 2=some (.int ((H+H:Nat):Int))→τ.vars 3=some (.int (p:Int))→τ.lists=σ.lists→
     0<H→H+H≤4000*2^d→4000<H+H→H+H≤1048576→2^(H-1)≤b1→b1<2^H→b2<2^H→A<2^(H+H)*(b1*2^H+b2)→A/(b1*2^H+b2)=a/b→(A%(b1*2^H+b2))/2^p=a%b→p<2→
     T (fnK Q σ) τ:=by
  intro A b1 b2 p H τ g0 g1 g2 g3 gl hH hHd hHl hHz hb1 hb1' hb2 hA e1 e2 hp2
  have hp:0<2^H:=Nat.two_pow_pos H
  have hB0:0<b1*2^H+b2:=Nat.add_pos_left (Nat.mul_pos (Nat.lt_of_lt_of_le (Nat.two_pow_pos _) hb1) hp) _
  obtain ⟨d',rfl⟩: ∃d',d=d'+1:=by
   cases d with
   |zero=>exfalso;rw[Nat.pow_zero] at hHd;lia
   |succ d'=>exact ⟨d',rfl⟩
  have hHd':H≤4000*2^d':=by rw[Nat.pow_succ] at hHd;lia
  obtain ⟨n1,n2,n3⟩:=div2_num (A:=A) (h:=H) hB0
  generalize hBB:b1*2^H+b2=B at*
  have f1:A/2^(H+H)*2^H+A/2^H%2^H=A/2^H:=by
   rw[Nat.pow_add,←Nat.div_div_eq_div_mul,Nat.mul_comm];exact Nat.div_add_mod _ _
  have f2:A/2^(H+H)<B:=Nat.div_lt_of_lt_mul hA
  have hT':=hT
  rw[←hT]
  repeat walk_at "mine"
  refine o_shrE (n:=1) (c:=(H:Int)) (by show ((H+H:Nat):Int).fdiv (2^1)=_;rw[n_shr];congr 1;lia) ?_
  repeat walk_at "mine"
  refine o_shlE (Int.one_mul _) (by
    have:Builtin.Int.intBits 1=1:=by kernel_rfl
    lia) ?_
  repeat walk_at "mine"
  refine o_subE rfl ?_
  repeat walk_at "mine"
  refine o_shrE (c:=(b1:Int)) (by rw[←hBB,n_shr,Nat.mul_comm b1,Nat.mul_add_div hp,Nat.div_eq_of_lt hb2,Nat.add_zero]) ?_
  repeat walk_at "mine"
  refine o_andE (c:=(b2:Int)) (by rw[←hBB,n_mask,Nat.mul_comm b1,Nat.mul_add_mod,Nat.mod_eq_of_lt hb2]) ?_
  refine ⟨Nat.le_of_ble_eq_true rfl,_,rfl,rfl,?_⟩
  repeat walk_at "mine"
  refine o_shrE (n_shr A (H+H)) ?_
  repeat walk_at "mine"
  refine o_shrE (n_shr A H) ?_
  repeat walk_at "mine"
  refine o_andE (n_mask (A/2^H) H) ?_
  repeat walk_at "mine"
  refine h3 d' rfl _ _ _ ⟨A/2^(H+H),A/2^H%2^H,b1,b2,H,by rw[hBB],hH,hb1,hb1',hb2,by rw[hBB];exact f2,Nat.mod_lt _ hp,hHd',by walk_at "a",?_⟩
  rw[hBB,f1]
  repeat walk_at "mine"
  refine o_andE (n_mask A H) ?_
  repeat walk_at "mine"
  refine h3 d' rfl _ _ _ ⟨A/2^H%B,A%2^H,b1,b2,H,by rw[hBB],hH,hb1,hb1',hb2,by rw[hBB];exact Nat.mod_lt _ hB0,Nat.mod_lt _ hp,hHd',by walk_at "a",?_⟩
  rw[hBB,n2]
  have fin3: ∀(τ':St) (r:Nat),τ'.vars 8=some (.int ((A/2^H/B:Nat):Int))→τ'.vars 10=some (.int (((A/2^H%B*2^H+A%2^H)/B:Nat):Int))→τ'.vars 4=some (.int (H:Int))→τ'.vars 9=some (.int (r:Int))→τ'.lists=σ.lists→r=a%b→ptSeq (ptRet (ptTup [ptBin Operator.BitOr (ptBin Operator.LShift (ptVar 8) (ptVar 4)) (ptVar 10),ptVar 9])) ptNil (fnK Q σ) τ':=by
   intro τ' r k8 k10 k4 k9 kl kr
   repeat walk_at "mine"
   refine o_shlE (n_shl (A/2^H/B) H) ?_ ?_
   ·have:A/2^H/B<2^H:=by
     refine Nat.div_lt_of_lt_mul ?_
     refine Nat.div_lt_of_lt_mul ?_
     rw[Nat.pow_add] at hA
     calc A<_:=hA
      _=_:=by grind
    have:=bits_of this
    lia
   repeat walk_at "mine"
   refine o_orE (n_or _ n3) ?_
   repeat walk_at "mine"
   refine ⟨Nat.le_of_ble_eq_true rfl,?_⟩
   rw[n1,e1,kr]
   show Q _ ⟨σ.vars,τ'.lists,σ.ro⟩
   rw[kl]
   exact q
  have hp3:p=0∨p=1:=by walk_at "a"
  generalize hT9:(ptSeq (ptRet (ptTup [ptBin Operator.BitOr (ptBin Operator.LShift (ptVar 8) (ptVar 4)) (ptVar 10),ptVar 9])) ptNil:PT Fl)=T9 at*
  repeat walk_at "mine"
  rcases hp3 with rfl|rfl
  ·refine t_intF rfl ?_
   repeat walk_at "mine"
   refine fin3 _ (A%B) ?_ ?_ ?_ ?_ ?_ ?_
   iterate 4 exact rfl
   ·exact gl
   ·rw[←e2,Nat.pow_zero,Nat.div_one]
  ·refine t_intT (by decide) ?_
   repeat walk_at "mine"
   refine i_shr (n:=1) (c:=((A%B/2:Nat):Int)) (n_shr (A%B) 1) ?_
   repeat walk_at "mine"
   refine fin3 _ (A%B/2) ?_ ?_ ?_ ?_ ?_ ?_
   iterate 4 exact rfl
   ·exact gl
   ·rw[←e2]
 repeat walk_at "mine"
 refine m_bits ?_
 repeat walk_at "mine"
 refine o_subE rfl ?_
 repeat walk_at "mine"
 have hb2n:a<2^(n+n):=by
  rw[Nat.pow_add]
  exact Nat.lt_of_lt_of_le ha (Nat.mul_le_mul_left _ (Nat.le_of_lt hb'))
 have hba:=bits_of hb2n
 have hbb:=bits_of hb'
 by_cases c:(Builtin.Int.intBits (a:Int):Int)-n≤4000
 ·refine c_leT c ?_
  repeat walk_at "mine"
  refine .divmod (by walk_at "a") (noPylong hn hb (by walk_at "a")) ?_
  rw[n_fdiv,n_fmod]
  exact q
 ·refine c_leF (by walk_at "a") ?_
  repeat walk_at "mine"
  refine o_andE (c:=((n%2:Nat):Int)) (by have:=n_and n 1;rw[Nat.and_one_is_mod] at this;exact this) ?_
  repeat walk_at "mine"
  have hH:0<(n+1)/2:=by walk_at "a"
  by_cases cp:n%2=0
  ·refine t_intF (by walk_at "a") ?_
   repeat walk_at "mine"
   obtain ⟨H,rfl⟩: ∃H,n=H+H:=⟨n/2,by walk_at "a"⟩
   obtain ⟨t1,t2⟩:=top_num (by walk_at "a") hb hb'
   have e:=Nat.div_add_mod' b (2^H)
   refine fin a (b/2^H) (b%2^H) 0 H _ ?_ ?_ ?_ ?_ ?_ (by walk_at "a") hd (by walk_at "a") hz' t1 t2 (Nat.mod_lt _ (Nat.two_pow_pos H)) (by rw[e];exact ha) (by rw[e]) (by rw[e,Nat.pow_zero,Nat.div_one]) (by decide)
   ·exact rfl
   ·rw[e];exact rfl
   ·exact rfl
   ·rw[cp];exact rfl
   ·exact rfl
  ·refine t_intT (by walk_at "a") ?_
   repeat walk_at "mine"
   refine i_shl (n:=1) (n_shl a 1) (by walk_at "a") ?_
   repeat walk_at "mine"
   refine i_shl (n:=1) (n_shl b 1) (by walk_at "a") ?_
   repeat walk_at "mine"
   refine i_add rfl ?_
   repeat walk_at "mine"
   obtain ⟨H,hH2⟩: ∃H,n+1=H+H:=⟨(n+1)/2,by walk_at "a"⟩
   have hp1:2^(H+H-1)=2^(n-1)*2:=by rw[←Nat.pow_succ];congr 1;lia
   have hp2:2^(H+H)=2^n*2:=by rw[←Nat.pow_succ];congr 1;lia
   obtain ⟨t1,t2⟩:=top_num (B:=b*2^1) (H:=H) (by walk_at "a") (by walk_at "a") (by walk_at "a")
   have e:=Nat.div_add_mod' (b*2^1) (2^H)
   have hm:n%2=1:=by walk_at "a"
   refine fin (a*2^1) (b*2^1/2^H) (b*2^1%2^H) 1 H _ ?_ ?_ ?_ ?_ ?_ (by walk_at "a") ?_ (by walk_at "a") (by walk_at "a") t1 t2 (Nat.mod_lt _ (Nat.two_pow_pos H)) ?_ ?_ ?_ (by decide)
   ·exact rfl
   ·rw[e];exact rfl
   ·rw[←hH2];exact rfl
   ·rw[hm];exact rfl
   ·exact rfl
   ·lia
   ·rw[e,hp2]
    calc a*2^1<2^n*b*2^1:=by walk_at "a"
     _≤2^n*2*(b*2^1):=by
      have:2^n*2*(b*2^1)=2*(2^n*b*2^1):=by grind
      lia
   ·rw[e,Nat.mul_div_mul_right _ _ (by decide)]
   ·rw[e,Nat.mul_mod_mul_right,Nat.mul_div_cancel _ (by decide)]
theorem div_sound (W:Wk C) (d:Nat):FnSound C (2*d+1) W.a__div2n1n (T_div2 d)∧FnSound C (2*d+2) W.a__div3n2n (T_div3 d):=by
 have go3: ∀{k d:Nat},FnSound C k W.a__div2n1n (T_div2 d)→FnSound C (k+1) W.a__div3n2n (T_div3 d):=fun h2=>FnSound.weak (fnAt_sound (m:=6) W W.f__div3n2n (W_div3n2n W h2).2 (fun pm cd doc vs h=>by
   obtain ⟨a,b,c,d,e,f,rfl⟩:=bind6 h
   rfl) (by kernel_rfl)) fun ds Q σ t=>con_div3 W _ ds Q σ t
 have go2: ∀{k d:Nat} {T3:Con} (h:FnSound C k W.a__div3n2n T3) (h3: ∀d',d=d'+1→ ∀ds Q σ,T_div3 d' ds Q σ→T3 ds Q σ),FnSound C (k+1) W.a__div2n1n (T_div2 d):=fun h h3=>FnSound.weak (fnAt_sound (m:=3) W W.f__div2n1n (W_div2n1n W h).2 (fun pm cd doc vs h=>by
   obtain ⟨a,b,c,rfl⟩:=bind3 h
   rfl) (by kernel_rfl)) fun ds Q σ t=>con_div2 W _ h3 ds Q σ t
 induction d with
 |zero=>exact (fun h2=>⟨h2,go3 h2⟩) (go2 (k:=0) (d:=0) (T3:=fun _ _ _=>False) (fun _ _ _ _ _ _ _ _ _ f=>f.elim) fun d' e=>nomatch e)
 |succ d ih=>exact (fun h2=>⟨h2,go3 h2⟩) (go2 ih.2 fun d' e=>Nat.succ.inj e▸fun _ _ _ t=>t)
end
end
section
open PySem PySem.Spec PySem.Calls PyProof.Rows PySem.W
section
variable {C:Ctx} {k:Nat}
noncomputable def LE (σ τ:St):Prop:= ∀b xs,σ.lists b=some xs→τ.lists b=some xs
theorem LE.refl {σ:St}:LE σ σ:=fun _ _ e=>e
theorem LE.trans {σ τ υ:St} (a:LE σ τ) (b:LE τ υ):LE σ υ:=fun c xs e=>b c xs (a c xs e)
theorem LE.setL {σ τ:St} {D:Addr} {xs:List V} (a:LE σ τ) (h:σ.lists D=none):LE σ (setL τ D xs):=fun b ys e=>by
 rw[setL_other (fun q=>by rw[q,h] at e;cases e)];exact a b ys e
theorem LE.none {σ τ:St} {D:Addr} (a:LE σ τ) (h:τ.lists D=none):σ.lists D=none:=by
 cases e:σ.lists D with
 |none=>rfl
 |some l=>rw[a D l e] at h;cases h
theorem LE.ext {σ τ:St} (a:LE σ τ):Ext σ ⟨σ.vars,τ.lists,σ.ro⟩:=⟨rfl,rfl,a⟩
inductive T_dmp (ds:List V) (Q:V→St→Prop) (σ:St):Prop
 |mk (a b:Nat) (h1:ds=[.int (a:Int),.int (b:Int)]) (h2:0<b) (h3:Builtin.Int.intBits (a:Int)≤32000) (h4:Builtin.Int.intBits (b:Int)≤32000) (h5: ∀σ',Ext σ σ'→Q (.tup [.int ((a/b:Nat):Int),.int ((a%b:Nat):Int)]) σ'):T_dmp ds Q σ
theorem digs_rev {n a m i:Nat} (h:i<m):(nints (digs n a m)).reverse[i]? =some (V.int ((a/2^(n*(m-1-i))%2^n:Nat):Int)):=by
 rw[List.getElem?_reverse (by rw[nints_len,digs_len];exact h),nints_len,digs_len,nints_get (by rw[digs_len];lia)]
 unfold digs
 simp
theorem top_step {a n m i:Nat} (h:i<m):a/2^(n*(m-(i+1)))=a/2^(n*(m-i))*2^n+a/2^(n*(m-1-i))%2^n:=by
 have e1:m-(i+1)=m-1-i:=by walk_at "a"
 have e2:n*(m-i)=n*(m-1-i)+n:=by
  have:m-i=m-1-i+1:=by walk_at "a"
  rw[this,Nat.mul_succ]
 rw[e1,e2,Nat.pow_add,←Nat.div_div_eq_div_mul]
 exact (Nat.div_add_mod' _ _).symm
theorem bits_pos {b:Nat} (h:0<b):0<Builtin.Int.intBits (b:Int)∧2^(Builtin.Int.intBits (b:Int)-1)≤b∧b<2^Builtin.Int.intBits (b:Int):=by
 have h1:b<2^Builtin.Int.intBits (b:Int):=n_bits.mp (Nat.le_refl _)
 have h0:0<Builtin.Int.intBits (b:Int):=by
  refine Nat.pos_of_ne_zero fun z=>?_
  rw[z] at h1;lia
 refine ⟨h0,?_,h1⟩
 refine Nat.le_of_not_lt fun z=>?_
 have:=bits_of z
 lia
inductive DmpI (a b n m:Nat) (D E:Addr) (σ:St) (i:Nat) (τ:St):Prop
 |mk (r:Nat) (qs:List Nat) (h1:τ.vars 1=some (.int (b:Int))) (h2:τ.vars 2=some (.int (n:Int))) (h3:τ.vars 4=some (.int (r:Int))) (h4:τ.vars 5=some (.lst E)) (h5:τ.lists E=some (nints qs)) (h6:τ.lists D=some (nints (digs n a m))) (h7:LE σ τ) (h8:qs.length=i) (h9:(∀x∈qs,x<2^n)) (h10:r=a/2^(n*(m-i))%b) (h11:val n qs.reverse=a/2^(n*(m-i))/b):DmpI a b n m D E σ i τ
theorem con_dmp (W:Wk C) (hd:FnSound C k W.a__digits2int (T_d2i 15)) (h2:FnSound C k W.a__div2n1n (T_div2 3)) (hi:FnSound C k W.a__int2digits (T_i2d 15)) (ds:List V) (Q:V→St→Prop) (σ:St) (t:T_dmp ds Q σ):fnCon 2 (W_divmod_pos W hd h2 hi).1 ds Q σ:=by
 obtain ⟨a,b,rfl,hb,ha,hbb,q⟩:=t
 refine fn_con rfl ?_
 unfold W_divmod_pos
 dsimp only
 obtain ⟨n0,n1,n2⟩:=bits_pos hb
 generalize hn:Builtin.Int.intBits (b:Int)=n at*
 have hm:ndig n a≤32000:=by
  unfold ndig
  refine Nat.le_of_lt_succ (Nat.div_lt_of_lt_mul ?_)
  have:32001*1≤n*32001:=by walk_at "a"
  lia
 have hnm:n*ndig n a≤64000:=by
  unfold ndig
  have:=Nat.mul_div_le (Builtin.Int.intBits (a:Int)+n-1) n
  lia
 have ho:=ndig_ok (X:=a) n0
 generalize hM:ndig n a=m at*
 repeat walk_at "mine"
 refine m_bits ?_
 rw[hn]
 repeat walk_at "mine"
 refine ⟨a,n,rfl,n0,by walk_at "a",by walk_at "a",by walk_at "a",by rw[hM];lia,?_⟩
 rw[hM]
 intro D σ₁ x1 hD0 hD
 repeat walk_at "mine"
 refine ⟨Nat.le_of_ble_eq_true rfl,fun E hE0=>?_⟩
 replace hE0:σ₁.lists E=none:=hE0
 have hED:E≠D:=fun z=>by rw[z,hD] at hE0;cases hE0
 have g0:LE σ σ₁:=fun b xs e=>x1.lists b xs e
 repeat walk_at "mine"
 refine ⟨D,nints (digs n a m),rfl,(setL_other (Ne.symm hED)).trans hD,?_⟩
 refine ForOk.mk (DmpI a b n m D E σ) ?_ ?_ ?_ ?_
 ·refine ⟨0,[],?_,?_,?_,?_,setL_get,(setL_other (Ne.symm hED)).trans hD,?_,rfl,by walk_at "s",?_,?_⟩
  ·exact rfl
  ·exact rfl
  ·exact rfl
  ·exact rfl
  ·exact g0.setL (g0.none hE0)
  ·rw[Nat.sub_zero,Nat.div_eq_of_lt ho,Nat.zero_mod]
  ·rw[Nat.sub_zero,Nat.div_eq_of_lt ho,Nat.zero_div];rfl
 ·rintro i τ _ ⟨r,qs,_,_,_,_,_,h,_⟩;exact h
 ·rintro i x τ hx ⟨r,qs,v1,v2,v4,v5,lE,lD,le,hl,hq,hr,hv⟩
  have him:i<m:=by
   have:=(List.getElem?_eq_some_iff.mp hx).1
   rw[List.length_reverse,nints_len,digs_len] at this;exact this
  rw[digs_rev him] at hx
  cases hx
  have hts:=top_step (a:=a) (n:=n) him
  have hyl:a/2^(n*(m-1-i))%2^n<2^n:=Nat.mod_lt _ (Nat.two_pow_pos n)
  generalize a/2^(n*(m-1-i))%2^n=y at*
  have hrb:r<b:=by rw[hr];exact Nat.mod_lt _ hb
  generalize hp1:a/2^(n*(m-i))=p at*
  repeat walk_at "mine"
  refine o_shlE (n_shl r n) (by have:=bits_of (Nat.lt_trans hrb n2);lia) ?_
  repeat walk_at "mine"
  refine o_addE (c:=((r*2^n+y:Nat):Int)) (by walk_at "a") ?_
  repeat walk_at "mine"
  have hlt:r*2^n+y<2^n*b:=by
   have:(r+1)*2^n≤b*2^n:=Nat.mul_le_mul_right _ hrb
   rw[Nat.add_mul,Nat.one_mul] at this
   rw[Nat.mul_comm (2^n)];lia
  refine ⟨r*2^n+y,b,n,rfl,n0,n1,n2,hlt,by walk_at "a",by walk_at "a",?_⟩
  repeat walk_at "mine"
  refine ⟨by show (τ.lists E).isSome=true;rw[lE];rfl,?_⟩
  repeat walk_at "mine"
  refine .append (xs:=nints qs) lE ?_ ?_
  ·rw[nints_len,hl];exact Nat.le_trans him (by
     have:32000≤sizeLine:=Nat.le_of_ble_eq_true rfl
     lia)
  repeat walk_at "mine"
  refine ⟨(r*2^n+y)%b,qs++[(r*2^n+y)/b],v1,v2,rfl,v5,?_,?_,?_,by rw[List.length_append,hl];rfl,?_,?_,?_⟩
  ·refine setL_get.trans ?_
   unfold nints;rw[List.map_append];rfl
  ·exact (setL_other (Ne.symm hED)).trans lD
  ·exact le.setL (g0.none hE0)
  ·intro x hx
   rcases List.mem_append.mp hx with h|h
   ·exact hq x h
   ·rw[List.mem_singleton.mp h];exact Nat.div_lt_of_lt_mul (Nat.lt_of_lt_of_eq hlt (Nat.mul_comm ..))
  ·rw[hts,hr]
   conv=>rhs;rw[←Nat.div_add_mod p b]
   have:(b*(p/b)+p%b)*2^n+y=(p%b*2^n+y)+b*(p/b*2^n):=by grind
   rw[this,Nat.add_mul_mod_self_left]
  ·rw[List.reverse_append,List.reverse_singleton,List.singleton_append,val_cons,hv,hts]
   conv=>rhs;rw[←Nat.div_add_mod p b]
   have:(b*(p/b)+p%b)*2^n+y=(p%b*2^n+y)+b*(p/b*2^n):=by grind
   rw[this,Nat.add_mul_div_left _ _ hb,hr,Nat.mul_comm (2^n)]
 ·rintro τ ⟨r,qs,v1,v2,v4,v5,lE,lD,le,hl,hq,hr,hv⟩
  rw[List.length_reverse,nints_len,digs_len] at hl hr hv
  rw[Nat.sub_self,Nat.mul_zero,Nat.pow_zero,Nat.div_one] at hr hv
  repeat walk_at "mine"
  refine ⟨by show (τ.lists E).isSome=true;rw[lE];rfl,?_⟩
  repeat walk_at "mine"
  refine .reverse (xs:=nints qs) lE ?_ ?_
  ·rw[nints_len,hl];exact Nat.le_trans hm (Nat.le_of_ble_eq_true rfl)
  repeat walk_at "mine"
  refine ⟨n,E,qs.reverse,rfl,?_,by rw[List.length_reverse,hl];lia,by rw[List.length_reverse,hl];lia,by rw[List.length_reverse,hl];lia,?_,?_⟩
  ·refine setL_get.trans ?_
   unfold nints;rw[List.map_reverse]
  ·intro x hx;exact hq x (List.mem_reverse.mp hx)
  repeat walk_at "mine"
  refine ⟨Nat.le_of_ble_eq_true rfl,?_⟩
  rw[hv,hr]
  refine q _ (LE.ext (τ:=setL τ E (nints qs).reverse) (le.setL (g0.none hE0)))
theorem dmp_sound (W:Wk C) (N:Wn C W):FnSound C 18 W.a__divmod_pos T_dmp:=
 FnSound.weak (fnAt_sound (m:=2) W W.f__divmod_pos (W_divmod_pos (k:=17) W (d2i_sound W N 15) ((div_sound W 3).1.le (by decide)) (i2d_sound W N 15)).2 (fun pm cd doc vs h=>by
    obtain ⟨a,b,rfl⟩:=bind2 h
    rfl) (by kernel_rfl)) fun ds Q σ t=>con_dmp W _ _ _ ds Q σ t
end
end
section
open PySem PySem.Spec PySem.Calls PyProof.Rows PySem.W
section
variable {C:Ctx} {k:Nat}
inductive T_idmL (l:Nat) (ds:List V) (Q:V→St→Prop) (σ:St):Prop
 |mk (a b:Int) (h1:ds=[.int a,.int b]) (h2:b≠0) (h3:(l<2→0<b)) (h4:(l<1→0≤a)) (h5:l≤2) (h6:Builtin.Int.intBits a≤32000) (h7:Builtin.Int.intBits b≤32000) (h8: ∀σ',Ext σ σ'→Q (.tup [.int (a.fdiv b),.int (a.fmod b)]) σ'):T_idmL l ds Q σ
theorem bits_abs (a:Int):Builtin.Int.intBits a=Builtin.Int.intBits (a.natAbs:Int):=by
 unfold Builtin.Int.intBits;simp
theorem bits_neg (a:Int):Builtin.Int.intBits (-a)=Builtin.Int.intBits a:=by rw[bits_abs,Int.natAbs_neg,←bits_abs]
theorem bits_mono {a b:Int} (h:a.natAbs≤b.natAbs):Builtin.Int.intBits a≤Builtin.Int.intBits b:=by
 rw[bits_abs a,bits_abs b]
 exact bits_of (Nat.lt_of_le_of_lt h (n_bits.mp (Nat.le_refl _)))
theorem bitNot_eq (a:Int):Builtin.bitNot a= -a-1:=by
 unfold Builtin.bitNot;lia
theorem fdiv_not {a b:Int} (hb:0<b): -((-a-1).fdiv b)-1=a.fdiv b∧b+(-((-a-1).fmod b)-1)=a.fmod b:=by
 rw[Int.fdiv_eq_ediv_of_nonneg _ (by walk_at "a"),Int.fdiv_eq_ediv_of_nonneg _ (by walk_at "a"),Int.fmod_eq_emod_of_nonneg _ (by walk_at "a"),Int.fmod_eq_emod_of_nonneg _ (by walk_at "a")]
 have h:=Int.mul_ediv_add_emod (-a-1) b
 have h1:=Int.emod_lt_of_pos (-a-1) hb
 have h2:=Int.emod_nonneg (-a-1) (b:=b) (by walk_at "a")
 refine div_unique ?_ (by walk_at "a") (by walk_at "a")
 rw[Int.sub_mul,Int.neg_mul,Int.mul_comm _ b];lia
theorem fdiv_neg2 {a b:Int}:(-a).fdiv (-b)=a.fdiv b∧ -((-a).fmod (-b))=a.fmod b:=by
 constructor
 ·exact Int.neg_fdiv_neg a b
 ·rw[Int.fmod_def,Int.fmod_def,Int.neg_fdiv_neg];grind
theorem con_idm (W:Wk C) (h:FnSound C k W.a__divmod_pos T_dmp) {l:Nat} {Tr:Con} (hr:FnSound C k W.a_int_divmod Tr) (hw: ∀l',l=l'+1→ ∀ds Q σ,T_idmL l' ds Q σ→Tr ds Q σ) (ds:List V) (Q:V→St→Prop) (σ:St) (t:T_idmL l ds Q σ):fnCon 2 (Wint_divmod W h hr).1 ds Q σ:=by
 obtain ⟨a,b,rfl,hb,hb1,ha1,hl,ba,bb,q⟩:=t
 refine fn_con rfl ?_
 unfold Wint_divmod
 dsimp only
 repeat walk_at "mine"
 refine c_eqF hb ?_
 repeat walk_at "mine"
 by_cases cb:b<0
 ·refine c_ltT cb ?_
  repeat walk_at "mine"
  obtain rfl:l=2:=by walk_at "a"
  refine u_neg rfl ?_
  repeat walk_at "mine"
  refine u_neg rfl ?_
  repeat walk_at "mine"
  refine hw 1 rfl _ _ _ ⟨-a, -b,rfl,by walk_at "a",by walk_at "a",by walk_at "a",by walk_at "a",by rw[bits_neg];exact ba,by rw[bits_neg];exact bb,fun σ₁ x=>?_⟩
  repeat walk_at "mine"
  refine u_neg rfl ?_
  repeat walk_at "mine"
  refine ⟨Nat.le_of_ble_eq_true rfl,?_⟩
  rw[fdiv_neg2.1,fdiv_neg2.2]
  exact q _ (LE.ext (τ:=σ₁) fun b xs e=>x.lists b xs e)
 ·refine c_ltF (by walk_at "a") ?_
  repeat walk_at "mine"
  by_cases ca:a<0
  ·refine c_ltT ca ?_
   repeat walk_at "mine"
   obtain ⟨l',rfl⟩: ∃l',l=l'+1:=⟨l-1,by walk_at "a"⟩
   refine u_not (bitNot_eq a) ?_
   repeat walk_at "mine"
   refine hw l' rfl _ _ _ ⟨-a-1,b,rfl,hb,by walk_at "a",by walk_at "a",by walk_at "a",Nat.le_trans (bits_mono (by walk_at "a")) ba,bb,fun σ₁ x=>?_⟩
   repeat walk_at "mine"
   refine u_not (bitNot_eq _) ?_
   repeat walk_at "mine"
   refine u_not (bitNot_eq _) ?_
   refine o_addE rfl ?_
   repeat walk_at "mine"
   refine ⟨Nat.le_of_ble_eq_true rfl,?_⟩
   rw[(fdiv_not (by walk_at "a")).1,(fdiv_not (by walk_at "a")).2]
   exact q _ (LE.ext (τ:=σ₁) fun b xs e=>x.lists b xs e)
  ·refine c_ltF (by walk_at "a") ?_
   repeat walk_at "mine"
   obtain ⟨x,rfl⟩:=Int.eq_ofNat_of_zero_le (a:=a) (by walk_at "a")
   obtain ⟨y,rfl⟩:=Int.eq_ofNat_of_zero_le (a:=b) (by walk_at "a")
   refine ⟨x,y,rfl,by walk_at "a",ba,bb,fun σ₁ z=>?_⟩
   rw[n_fdiv,n_fmod] at q
   exact q _ (LE.ext (τ:=σ₁) fun b xs e=>z.lists b xs e)
theorem idm_sound (W:Wk C) (N:Wn C W): ∀l,FnSound C (19+l) W.a_int_divmod (T_idmL l)
 |0=>FnSound.weak (fnAt_sound (m:=2) W W.f_int_divmod (Wint_divmod W (dmp_sound W N) (T_int_divmod:=fun _ _ _=>False) (fun _ _ _ _ _ _ _ _ _ f=>f.elim)).2 (fun pm cd doc vs h=>by
    obtain ⟨a,b,rfl⟩:=bind2 h
    rfl) (by kernel_rfl)) fun ds Q σ t=>con_idm W _ _ (fun l' e=>absurd e (by walk_at "a")) ds Q σ t
 |l+1=>FnSound.weak (fnAt_sound (m:=2) W W.f_int_divmod (Wint_divmod W ((dmp_sound W N).le (by walk_at "a")) (idm_sound W N l)).2 (fun pm cd doc vs h=>by
    obtain ⟨a,b,rfl⟩:=bind2 h
    rfl) (by kernel_rfl)) fun ds Q σ t=>con_idm W _ _ (fun l' e=>by cases e;exact fun _ _ _ t=>t) ds Q σ t
end
end
section
open PySem PySem.Spec PySem.Calls PyProof.Rows PySem.W
section
variable {C:Ctx} {k:Nat} {σ:St} {Q:V→St→Prop} {QB:Bool→St→Prop} {QF:Fl→St→Prop}
noncomputable def S (l:List Nat):Str:=⟨l.toArray⟩
theorem S_len (l:List Nat):(S l).length=l.length:=List.size_toArray
theorem S_inj {a b:List Nat}:S a=S b↔a=b:=⟨fun h=>congrArg (fun x:Str=>x.cps.toList) h,fun h=>congrArg S h⟩
theorem S_app (a b:List Nat):S a++S b=S (a++b):=by
 show (⟨a.toArray++b.toArray⟩:Str)=_
 rw[List.append_toArray];rfl
theorem cut_from {l:List Nat} {p:Nat} (h:p≤l.length):strCut (S l) (some (p:Int)) none=S (l.drop p):=by
 show (⟨(cut (l.toArray.toList) (some (p:Int)) none).toArray⟩:Str)=S _
 unfold S cut
 rw[kms_lo_nat h]
 unfold kms_hi
 simp only
 rw[List.take_of_length_le (by rw[List.length_drop];exact Nat.le_refl _)]
theorem cut_none {l:List Nat}:strCut (S l) none none=S l:=by
 show (⟨(cut (l.toArray.toList) none none).toArray⟩:Str)=S _
 unfold S cut kms_lo kms_hi
 simp
theorem cut_to {l:List Nat} {p:Nat} (h:p≤l.length):strCut (S l) none (some (p:Int))=S (l.take p):=by
 show (⟨(cut (l.toArray.toList) none (some (p:Int))).toArray⟩:Str)=S _
 unfold S cut
 rw[kms_hi_nat h]
 unfold kms_lo
 simp
theorem cut_neg {l:List Nat} {q:Nat} (h0:0<q) (h:q≤l.length):strCut (S l) none (some (-(q:Int)))=S (l.take (l.length-q)):=by
 show (⟨(cut (l.toArray.toList) none (some (-(q:Int)))).toArray⟩:Str)=S _
 unfold S cut kms_lo kms_hi
 simp only
 rw[if_pos (by lia),Int.neg_neg,Int.toNat_natCast]
 simp
theorem s_size {l:List Nat} (hz:l.length≤16777216):(S l).length≤sizeLine:=S_len l▸hz
theorem t_strT {l:List Nat} (h:l≠[]) (hz:l.length≤16777216) (q:QB true σ):tPT (.str (S l)) QB σ:= .str (s_size hz) (by
 rw[S_len,decide_eq_true (show l.length≠0 from fun z=>h (List.length_eq_zero_iff.mp z))];exact q)
theorem t_strF (q:QB false σ):tPT (.str (S [])) QB σ:= .str (Nat.le_of_ble_eq_true rfl) q
theorem fits24 {i:Nat} (h:i≤16777216):fitsI (i:Int):=⟨by lia,by lia⟩
theorem fits24n {i:Nat} (h:i<16777216):fitsI (-(i:Int)-1):=⟨by lia,by lia⟩
theorem it_str {l:List Nat} {i c:Nat} (h:l[i]? =some c) (hz:l.length≤16777216) (q:Q (.str (S [c])) σ):itPT (.str (S l)) (.int (i:Int)) Q σ:=
 have hl:=(List.getElem?_eq_some_iff.mp h).1
 .str (fits24 (Nat.le_trans (Nat.le_of_lt hl) hz)) (idx_nn ((S_len l).symm▸hl)) (List.getElem?_toArray.trans h) q
theorem idx_ng {i n:Nat} (h:i<n):seqIndex? (-(i:Int)-1) n=some (n-1-i):=by
 rw[seqIndex_ng (by lia) (by lia)]
 exact congrArg some (by lia)
theorem it_strN {l:List Nat} {i c:Nat} (h:l.reverse[i]? =some c) (hz:l.length≤16777216) (q:Q (.str (S [c])) σ):itPT (.str (S l)) (.int (-(i:Int)-1)) Q σ:=by
 have hl:=(List.getElem?_eq_some_iff.mp h).1
 rw[List.length_reverse] at hl
 rw[List.getElem?_reverse hl] at h
 exact .str (fits24n (Nat.lt_of_lt_of_le hl hz)) (by rw[S_len];exact idx_ng hl) (List.getElem?_toArray.trans h) q
theorem sl_from {l:List Nat} {p:Nat} (h:p≤l.length) (hz:l.length≤16777216) (q:Q (.str (S (l.drop p))) σ):slPT (.str (S l)) (.int (p:Int)) .none Q σ:= .str (lo:=some (p:Int)) (hi:=none) rfl rfl (s_size hz) (cut_from h▸q)
theorem sl_to {l:List Nat} {p:Nat} (h:p≤l.length) (hz:l.length≤16777216) (q:Q (.str (S (l.take p))) σ):slPT (.str (S l)) .none (.int (p:Int)) Q σ:= .str (lo:=none) (hi:=some (p:Int)) rfl rfl (s_size hz) (cut_to h▸q)
noncomputable def cutV (q:Nat):V:=if q=0 then .none else .int (-(q:Int))
theorem sl_cutV {l:List Nat} {p:Nat} (h:p≤l.length) (hz:l.length≤16777216) (q:Q (.str (S (l.take (l.length-p)))) σ):slPT (.str (S l)) .none (cutV p) Q σ:=by
 unfold cutV
 by_cases c:p=0
 ·subst c
  rw[if_pos rfl]
  rw[Nat.sub_zero,List.take_length] at q
  exact .str (lo:=none) (hi:=none) rfl rfl (s_size hz) (by rw[cut_none];exact q)
 ·rw[if_neg c]
  exact .str (lo:=none) (hi:=some (-(p:Int))) rfl rfl (s_size hz) (cut_neg (Nat.pos_of_ne_zero c) h▸q)
theorem or_cutV {i p:Nat} (h:σ.vars i=some (.int (-(p:Int)))) (q:Q (cutV p) σ):ptOr (ptVar i) ptNone Q σ:=by
 refine ⟨_,h,?_⟩
 unfold cutV at q
 by_cases c:p=0
 ·subst c
  rw[if_pos rfl] at q
  exact t_intF rfl q
 ·rw[if_neg c] at q
  exact t_intT (by lia) q
theorem c_eqsT {a b:List Nat} (h:a=b) (q:QB true σ):cmpPT .Eq (.str (S a)) (.str (S b)) QB σ:= .eqS (by rw[decide_eq_true (S_inj.mpr h)];exact q)
theorem c_eqsF {a b:List Nat} (h:a≠b) (q:QB false σ):cmpPT .Eq (.str (S a)) (.str (S b)) QB σ:= .eqS (by rw[decide_eq_false (fun e=>h (S_inj.mp e))];exact q)
theorem c_nesT {a b:List Nat} (h:a≠b) (q:QB true σ):cmpPT .NotEq (.str (S a)) (.str (S b)) QB σ:= .neS (by rw[decide_eq_false (fun e=>h (S_inj.mp e))];exact q)
theorem c_nesF {a b:List Nat} (h:a=b) (q:QB false σ):cmpPT .NotEq (.str (S a)) (.str (S b)) QB σ:= .neS (by rw[decide_eq_true (S_inj.mpr h)];exact q)
theorem c_neiT {a b:Int} (h:a≠b) (q:QB true σ):cmpPT .NotEq (.int a) (.int b) QB σ:= .neI (by rw[decide_eq_false h];exact q)
theorem c_neiF {a b:Int} (h:a=b) (q:QB false σ):cmpPT .NotEq (.int a) (.int b) QB σ:= .neI (by rw[decide_eq_true h];exact q)
theorem bi_lenS {l:List Nat} (hz:l.length≤16777216) (q:Q (.int (l.length:Int)) σ):biPT .len [.str (S l)] Q σ:= .lenS (s_size hz) (by rw[S_len];exact q)
theorem min_int (a b:Nat):(if (b:Int)<a then (b:Int) else a)=((min a b:Nat):Int):=by split<;>lia
theorem bi_min {a b:Nat} (q:Q (.int ((min a b:Nat):Int)) σ):biPT .min [.int (a:Int),.int (b:Int)] Q σ:= .min (min_int a b▸q)
end
section
variable {C:Ctx} {k:Nat}
noncomputable def subCost (a b:Str):Int:=if a=b then 0 else if Txt.lower a=Txt.lower b then 1 else 2
inductive T_sub (ds:List V) (Q:V→St→Prop) (σ:St):Prop
 |mk (a b) (h1:ds=[.str a,.str b]) (h2:a.length≤5592405) (h3:b.length≤5592405) (h4:Q (.int (subCost a b)) σ):T_sub ds Q σ
theorem con_sub (W:Wk C) (ds:List V) (Q:V→St→Prop) (σ:St) (h:T_sub ds Q σ):fnCon 2 (W_substitution_cost (k:=k) W).1 ds Q σ:=by
 obtain ⟨a,b,rfl,h1,h2,q⟩:=h
 refine fn_con rfl ?_
 unfold W_substitution_cost
 repeat walk_at "mine"
 refine c_eqs ?_
 unfold subCost at q
 by_cases c:a=b
 ·rw[if_pos (decide_eq_true c)]
  rw[if_pos c] at q
  repeat walk_at "mine"
  exact q
 ·rw[if_neg (ne_true_of_eq_false (decide_eq_false c))]
  rw[if_neg c] at q
  repeat walk_at "mine"
  refine m_lower h1 ?_
  repeat walk_at "mine"
  refine m_lower h2 ?_
  refine c_eqs ?_
  by_cases c:Txt.lower a=Txt.lower b
  ·rw[if_pos (decide_eq_true c)]
   rw[if_pos c] at q
   repeat walk_at "mine"
   exact q
  ·rw[if_neg (ne_true_of_eq_false (decide_eq_false c))]
   rw[if_neg c] at q
   repeat walk_at "mine"
   exact q
theorem sub_sound (W:Wk C):FnSound C 1 W.a__substitution_cost T_sub:=
 FnSound.weak (fnAt_sound (m:=2) W W.f__substitution_cost (W_substitution_cost (k:=0) W).2 (fun pm cd doc vs h=>by
    obtain ⟨a,b,rfl⟩:=bind2 h
    rfl) (by kernel_rfl)) fun ds Q σ t=>con_sub W ds Q σ t
noncomputable def okc (c:Nat):Bool:=c==102||c==105||c==115||c==116||c==70||c==73||c==83||c==84
noncomputable def low (c:Nat):Nat:=if c<97 then c+32 else c
noncomputable def cost (c d:Nat):Nat:=if c=d then 0 else if low c=low d then 1 else 2
theorem sub_table:([102,105,115,116,70,73,83,84].all fun c=>[102,105,115,116,70,73,83,84].all fun d=>subCost (S [c]) (S [d])==(cost c d:Int))=true:=by kernel_rfl
theorem okc_mem {c:Nat} (h:okc c=true):c∈[102,105,115,116,70,73,83,84]:=by
 unfold okc at h
 simp only[Bool.or_eq_true,beq_iff_eq] at h
 rcases h with ((((((rfl|rfl)|rfl)|rfl)|rfl)|rfl)|rfl)|rfl<;>decide
theorem sub_cost {c d:Nat} (h:okc c=true) (h':okc d=true):subCost (S [c]) (S [d])=(cost c d:Int):=by
 have:=List.all_eq_true.mp (List.all_eq_true.mp sub_table c (okc_mem h)) d (okc_mem h')
 exact eq_of_beq this
end
end
section
open PySem PySem.Spec PySem.Calls PyProof.Rows PySem.W
section
variable {C:Ctx} {k:Nat}
noncomputable def stripP:List Nat→List Nat→List Nat×List Nat
 |x::xs,y::ys=>if x=y then stripP xs ys else (x::xs,y::ys)
 |xs,ys=>(xs,ys)
noncomputable def lrow (bc:Nat):List Nat→List Nat→Nat→Nat→Nat→List Nat×Nat×Nat
 |c::cs,r::rs,dist,res,mn=>
  let res':=min (min res r+2) (dist+cost bc c)
  let x:=lrow bc cs rs r res' (min res' mn)
  (res'::x.1,x.2)
 |_,_,_,res,mn=>([],res,mn)
noncomputable def lout (a:List Nat) (m:Nat):List Nat→Nat→List Nat→Nat→Nat
 |[],_,_,res=>res
 |c::bs,i,row,_=>
  let x:=lrow c a row (i*2) (i*2) 9223372036854775807
  if m<x.2.2 then m+1 else lout a m bs (i+1) x.1 x.2.1
noncomputable def lev3 (a b:List Nat) (m:Nat):Nat:=if m<(b.length-a.length)*2 then m+1 else lout a m b 0 ((List.range a.length).map fun i=>2+i*2) 0
noncomputable def lev2 (a b:List Nat) (m:Nat):Nat:=
 if a=[]∨b=[] then 2*(a.length+b.length) else if 40<a.length∨40<b.length then m+1 else if b.length<a.length then lev3 b a m else lev3 a b m
noncomputable def lev (a b:List Nat) (m:Nat):Nat:=
 if a=b then 0 else
 lev2 (stripP (stripP a b).1.reverse (stripP a b).2.reverse).1.reverse (stripP (stripP a b).1.reverse (stripP a b).2.reverse).2.reverse m
theorem stripP_le: ∀a b:List Nat,(stripP a b).1.length≤a.length∧(stripP a b).2.length≤b.length∧(∀x∈(stripP a b).1,x∈a)∧(∀x∈(stripP a b).2,x∈b)
 |x::xs,y::ys=>by
  unfold stripP
  split
  ·have:=stripP_le xs ys
   simp only[List.length_cons]
   refine ⟨by walk_at "a",by walk_at "a",fun z h=>List.mem_cons_of_mem _ (this.2.2.1 z h),fun z h=>List.mem_cons_of_mem _ (this.2.2.2 z h)⟩
  ·simp
 |[],ys=>by unfold stripP;simp
 |x::xs,[]=>by unfold stripP;simp
theorem stripP_step {a b:List Nat} {p c:Nat} (h1:a[p]? =some c) (h2:b[p]? =some c):stripP (a.drop p) (b.drop p)=stripP (a.drop (p+1)) (b.drop (p+1)):=by
 have l1:=(List.getElem?_eq_some_iff.mp h1)
 have l2:=(List.getElem?_eq_some_iff.mp h2)
 rw[List.drop_eq_getElem_cons l1.1,List.drop_eq_getElem_cons l2.1,l1.2,l2.2]
 conv=>lhs;unfold stripP
 rw[if_pos rfl]
theorem stripP_stop {a b:List Nat} {p:Nat} (h: ∀c d,a[p]? =some c→b[p]? =some d→c≠d):stripP (a.drop p) (b.drop p)=(a.drop p,b.drop p):=by
 by_cases l1:p<a.length
 ·by_cases l2:p<b.length
  ·rw[List.drop_eq_getElem_cons l1,List.drop_eq_getElem_cons l2]
   unfold stripP
   rw[if_neg (h _ _ (List.getElem?_eq_getElem l1) (List.getElem?_eq_getElem l2))]
  ·rw[List.drop_eq_nil_of_le (as:=b) (by walk_at "a")]
   cases a.drop p<;>rfl
 ·rw[List.drop_eq_nil_of_le (as:=a) (by walk_at "a")]
  unfold stripP;rfl
inductive LvP (a b:List Nat) (τ:St) (n:Nat) (τ':St):Prop
 |mk (p:Nat) (h1:p≤a.length) (h2:p≤b.length) (h3:stripP a b=stripP (a.drop p) (b.drop p)) (h4:τ'.vars 0=some (.str (S a))) (h5:τ'.vars 1=some (.str (S b))) (h6:τ'.vars 3=some (.int (p:Int))) (h7:τ'.vars 2=τ.vars 2) (h8:τ'.lists=τ.lists) (h9:n=a.length-p):LvP a b τ n τ'
theorem lev_pre {a b:List Nat} {τ:St} {QF:Fl→St→Prop} (h0:τ.vars 0=some (.str (S a))) (h1:τ.vars 1=some (.str (S b))) (h3:τ.vars 3=some (.int 0)) (za:a.length≤100) (zb:b.length≤100)
  (q: ∀(p:Nat) τ',p≤a.length→p≤b.length→stripP a b=(a.drop p,b.drop p)→τ'.vars 0=some (.str (S a))→τ'.vars 1=some (.str (S b))→τ'.vars 3=some (.int (p:Int))→τ'.vars 2=τ.vars 2→τ'.lists=τ.lists→QF .next τ'):
  ptWhile (ptAll .And [ptT (ptSl (ptVar 0) (ptVar 3) ptNone),ptT (ptSl (ptVar 1) (ptVar 3) ptNone),ptCmp .Eq (ptIt (ptVar 0) (ptVar 3)) (ptIt (ptVar 1) (ptVar 3))]) (ptSeq (ptAug 3 .Add (ptInt 1)) ptNil) QF τ:=by
 refine p_while (LvP a b τ) (a.length) ⟨0,by walk_at "a",by walk_at "a",rfl,h0,h1,h3,rfl,rfl,rfl⟩ ?_
 rintro n τ' ⟨p,l1,l2,e,g0,g1,g3,g2,gl,rfl⟩
 repeat walk_at "mine"
 refine sl_from l1 (by walk_at "a") ?_
 by_cases n1:p<a.length
 ·refine t_strT (by intro z;have:=congrArg List.length z;rw[List.length_drop] at this;simp at this;lia) (by rw[List.length_drop];lia) ?_
  repeat walk_at "mine"
  refine sl_from l2 (by walk_at "a") ?_
  by_cases n2:p<b.length
  ·refine t_strT (by intro z;have:=congrArg List.length z;rw[List.length_drop] at this;simp at this;lia) (by rw[List.length_drop];lia) ?_
   repeat walk_at "mine"
   refine it_str (List.getElem?_eq_getElem n1) (by walk_at "a") ?_
   repeat walk_at "mine"
   refine it_str (List.getElem?_eq_getElem n2) (by walk_at "a") ?_
   by_cases c:a[p]=b[p]
   ·refine c_eqsT (by rw[c]) ?_
    repeat walk_at "mine"
    refine i_add rfl ?_
    repeat walk_at "mine"
    exact ⟨a.length-(p+1),by walk_at "a",p+1,by walk_at "a",by walk_at "a",by rw[e,stripP_step (List.getElem?_eq_getElem n1) (by rw[List.getElem?_eq_getElem n2,c])],g0,g1,rfl,g2,gl,rfl⟩
   ·refine c_eqsF (by simpa using c) ?_
    repeat walk_at "mine"
    refine q p _ l1 l2 (e.trans (stripP_stop fun x y h1 h2=>?_)) g0 g1 g3 g2 gl
    rw[List.getElem?_eq_getElem n1] at h1;rw[List.getElem?_eq_getElem n2] at h2
    cases h1;cases h2;exact c
  ·rw[List.drop_eq_nil_of_le (as:=b) (by walk_at "a")]
   refine t_strF ?_
   repeat walk_at "mine"
   refine q p _ l1 l2 (e.trans (stripP_stop fun x y h1 h2=>?_)) g0 g1 g3 g2 gl
   exact absurd (List.getElem?_eq_some_iff.mp h2).1 n2
 ·rw[List.drop_eq_nil_of_le (as:=a) (by walk_at "a")]
  refine t_strF ?_
  repeat walk_at "mine"
  refine q p _ l1 l2 (e.trans (stripP_stop fun x y h1 h2=>?_)) g0 g1 g3 g2 gl
  exact absurd (List.getElem?_eq_some_iff.mp h1).1 n1
theorem take_rev {l:List Nat} {q:Nat}:l.take (l.length-q)=(l.reverse.drop q).reverse:=by
 rw[List.drop_reverse,List.reverse_reverse]
inductive LvQ (a b:List Nat) (τ:St) (n:Nat) (τ':St):Prop
 |mk (p:Nat) (h1:p≤a.length) (h2:p≤b.length) (h3:stripP a.reverse b.reverse=stripP (a.reverse.drop p) (b.reverse.drop p)) (h4:τ'.vars 0=some (.str (S a))) (h5:τ'.vars 1=some (.str (S b))) (h6:τ'.vars 4=some (.int (-(p:Int)))) (h7:τ'.vars 2=τ.vars 2) (h8:τ'.lists=τ.lists) (h9:n=a.length-p):LvQ a b τ n τ'
theorem lev_post {a b:List Nat} {τ:St} {QF:Fl→St→Prop} (h0:τ.vars 0=some (.str (S a))) (h1:τ.vars 1=some (.str (S b))) (h3:τ.vars 4=some (.int 0)) (za:a.length≤100) (zb:b.length≤100)
  (q: ∀(p:Nat) τ',p≤a.length→p≤b.length→stripP a.reverse b.reverse=(a.reverse.drop p,b.reverse.drop p)→τ'.vars 0=some (.str (S a))→τ'.vars 1=some (.str (S b))→τ'.vars 4=some (.int (-(p:Int)))→τ'.vars 2=τ.vars 2→τ'.lists=τ.lists→QF .next τ'):
  ptWhile (ptAll .And [ptT (ptSl (ptVar 0) ptNone (ptOr (ptVar 4) ptNone)),ptT (ptSl (ptVar 1) ptNone (ptOr (ptVar 4) ptNone)),ptCmp .Eq (ptIt (ptVar 0) (ptBin .Sub (ptVar 4) (ptInt 1))) (ptIt (ptVar 1) (ptBin .Sub (ptVar 4) (ptInt 1)))]) (ptSeq (ptAug 4 .Sub (ptInt 1)) ptNil) QF τ:=by
 have ra:a.reverse.length=a.length:=List.length_reverse
 have rb:b.reverse.length=b.length:=List.length_reverse
 refine p_while (LvQ a b τ) (a.length) ⟨0,by walk_at "a",by walk_at "a",rfl,h0,h1,h3,rfl,rfl,rfl⟩ ?_
 rintro n τ' ⟨p,l1,l2,e,g0,g1,g3,g2,gl,rfl⟩
 repeat walk_at "mine"
 refine or_cutV g3 ?_
 refine sl_cutV l1 (by walk_at "a") ?_
 by_cases n1:p<a.length
 ·refine t_strT (by intro z;have:=congrArg List.length z;rw[List.length_take] at this;simp at this;lia) (by rw[List.length_take];lia) ?_
  repeat walk_at "mine"
  refine or_cutV g3 ?_
  refine sl_cutV l2 (by walk_at "a") ?_
  by_cases n2:p<b.length
  ·refine t_strT (by intro z;have:=congrArg List.length z;rw[List.length_take] at this;simp at this;lia) (by rw[List.length_take];lia) ?_
   repeat walk_at "mine"
   refine o_subE rfl ?_
   have m1:p<a.reverse.length:=by walk_at "a"
   have m2:p<b.reverse.length:=by walk_at "a"
   refine it_strN (List.getElem?_eq_getElem m1) (by walk_at "a") ?_
   repeat walk_at "mine"
   refine o_subE rfl ?_
   refine it_strN (List.getElem?_eq_getElem m2) (by walk_at "a") ?_
   by_cases c:a.reverse[p]=b.reverse[p]
   ·refine c_eqsT (by rw[c]) ?_
    repeat walk_at "mine"
    refine i_sub (c:= -((p+1:Nat):Int)) (by walk_at "a") ?_
    repeat walk_at "mine"
    exact ⟨a.length-(p+1),by walk_at "a",p+1,by walk_at "a",by walk_at "a",by rw[e,stripP_step (List.getElem?_eq_getElem m1) (by rw[List.getElem?_eq_getElem m2,c])],g0,g1,rfl,g2,gl,rfl⟩
   ·refine c_eqsF (by simpa using c) ?_
    repeat walk_at "mine"
    refine q p _ l1 l2 (e.trans (stripP_stop fun x y h1 h2=>?_)) g0 g1 g3 g2 gl
    rw[List.getElem?_eq_getElem m1] at h1;rw[List.getElem?_eq_getElem m2] at h2
    cases h1;cases h2;exact c
  ·have:List.take (b.length-p) b=[]:=by rw[show b.length-p=0 by walk_at "a"];rfl
   rw[this]
   refine t_strF ?_
   repeat walk_at "mine"
   refine q p _ l1 l2 (e.trans (stripP_stop fun x y h1 h2=>?_)) g0 g1 g3 g2 gl
   exact absurd (List.getElem?_eq_some_iff.mp h2).1 (by walk_at "a")
 ·have:List.take (a.length-p) a=[]:=by rw[show a.length-p=0 by walk_at "a"];rfl
  rw[this]
  refine t_strF ?_
  repeat walk_at "mine"
  refine q p _ l1 l2 (e.trans (stripP_stop fun x y h1 h2=>?_)) g0 g1 g3 g2 gl
  exact absurd (List.getElem?_eq_some_iff.mp h1).1 (by walk_at "a")
end
end
section
open PySem PySem.Spec PySem.Calls PyProof.Rows PySem.W
section
variable {C:Ctx} {k:Nat}
inductive T_lev (ds:List V) (Q:V→St→Prop) (σ:St):Prop
 |mk (a b m) (h1:ds=[.str (S a),.str (S b),.int ((m:Nat):Int)]) (h2:a.length≤100) (h3:b.length≤100) (h4:(∀c∈a,okc c=true)) (h5:(∀c∈b,okc c=true)) (h6: ∀σ',Ext σ σ'→Q (.int ((lev a b m:Nat):Int)) σ'):T_lev ds Q σ
theorem mulS {a b:Nat} (h:a<2^64) (h':b<2^64):IntMulOk (a:Int) (b:Int):=mulOk (m:=0) (by have:=bits_of h;have:=bits_of h';lia)
theorem nints_app (a b:List Nat):nints (a++b)=nints a++nints b:=by unfold nints;rw[List.map_append]
theorem nints_mid {done rest:List Nat} {r:Nat}:(nints (done++r::rest))[done.length]? =some (V.int (r:Int)):=by
 unfold nints;rw[List.getElem?_map,List.getElem?_append_right (Nat.le_refl _),Nat.sub_self];rfl
theorem nints_set {done rest:List Nat} {r x:Nat}:(nints (done++r::rest)).set done.length (V.int (x:Int))=nints ((done++[x])++rest):=by
 unfold nints
 rw[List.map_append,List.set_append_right _ _ (by walk_at "s")]
 simp
theorem row_range {n:Nat} {Q:V→St→Prop} {σ:St} (h:n≤100) (q: ∀l,σ.lists l=none→Q (.lst l) (setL σ l (nints ((List.range n).map fun i=>2+i*2)))):LRGo [.int 2,.int ((2*(n+1):Nat):Int),.int 2] Q σ:=by
 have e:Builtin.Range.rangeSize 2 ((2*(n+1):Nat):Int) 2=(n:Int):=by
  delta Builtin.Range.rangeSize;simp;lia
 refine ⟨2,((2*(n+1):Nat):Int),2,.three,⟨by decide,by decide,by walk_at "a",by walk_at "a",by decide,by decide⟩,by rw[e];lia,fun l hl=>?_⟩
 rw[e]
 have e2:rangeVals 2 2 ((n:Int)).toNat=nints ((List.range n).map fun i=>2+i*2):=by
  unfold rangeVals nints
  rw[Int.toNat_natCast,List.map_map]
  refine List.map_congr_left fun i _=>?_
  show V.int _=V.int _
  congr 1
 rw[e2];exact q l hl
inductive LevI (A B a b:List Nat) (m:Nat) (E:Addr) (σ:St) (i:Nat) (τ':St):Prop
 |mk (row:List Nat) (res:Nat) (h1:τ'.vars 0=some (.str (S A))) (h2:τ'.vars 1=some (.str (S B))) (h3:τ'.vars 2=some (.int (m:Int))) (h4:τ'.vars 5=some (.lst E)) (h5:τ'.vars 6=some (.int (res:Int))) (h6:τ'.lists E=some (nints row)) (h7:row.length=A.length) (h8:LE σ τ') (h9:i≤B.length) (h10:lout A m (B.drop i) i row res=lev a b m):LevI A B a b m E σ i τ'
inductive LevJ (A B:List Nat) (m bc:Nat) (E:Addr) (σ:St) (F:List Nat×Nat×Nat) (j:Nat) (τ':St):Prop
 |mk (done rest:List Nat) (dist res mn:Nat) (h1:τ'.vars 0=some (.str (S A))) (h2:τ'.vars 1=some (.str (S B))) (h3:τ'.vars 2=some (.int (m:Int))) (h4:τ'.vars 5=some (.lst E)) (h5:τ'.vars 6=some (.int (res:Int))) (h6:τ'.vars 8=some (.str (S [bc]))) (h7:τ'.vars 9=some (.int (dist:Int))) (h8:τ'.vars 10=some (.int (mn:Int))) (h9:τ'.lists E=some (nints (done++rest))) (h10:done.length=j) (h11:j+rest.length=A.length) (h12:LE σ τ') (h13:(done++(lrow bc (A.drop j) rest dist res mn).1,(lrow bc (A.drop j) rest dist res mn).2)=F):LevJ A B m bc E σ F j τ'
theorem con_lev (W:Wk C) (h:FnSound C k W.a__substitution_cost T_sub) (ds:List V) (Q:V→St→Prop) (σ:St) (t:T_lev ds Q σ):fnCon 3 (W_levenshtein_distance W h).1 ds Q σ:=by
 obtain ⟨a,b,m,rfl,za,zb,ka,kb,q⟩:=t
 refine fn_con rfl ?_
 unfold W_levenshtein_distance
 dsimp only
 have hz:10000≤sizeLine:=Nat.le_of_ble_eq_true rfl
 generalize hT:(ptSeq (ptIf (ptCmp CmpOp.Gt (ptBin Operator.Mult _ _) _) _ _) _:PT Fl)=T
 have fin: ∀(A B:List Nat) (τ:St),τ.vars 0=some (.str (S A))→τ.vars 1=some (.str (S B))→τ.vars 2=some (.int (m:Int))→A.length≤40→B.length≤40→B≠[]→A.length≤B.length→(∀c∈A,okc c=true)→(∀c∈B,okc c=true)→LE σ τ→lev3 A B m=lev a b m→
   T (fnK Q σ) τ:=by
  intro A B τ g0 g1 g2 zA zB nB hAB kA kB le e
  unfold lev3 at e
  rw[←hT]
  repeat walk_at "mine"
  refine bi_lenS (by walk_at "a") ?_
  repeat walk_at "mine"
  refine bi_lenS (by walk_at "a") ?_
  refine o_subE (c:=((B.length-A.length:Nat):Int)) (by walk_at "a") ?_
  repeat walk_at "mine"
  refine o_mulE (c:=(((B.length-A.length)*2:Nat):Int)) (by walk_at "a") (mulS (b:=2) (by walk_at "a") (by walk_at "a")) ?_
  repeat walk_at "mine"
  by_cases c:m<(B.length-A.length)*2
  ·rw[if_pos c] at e
   refine c_gtT (by walk_at "a") ?_
   repeat walk_at "mine"
   refine o_addE (c:=((m+1:Nat):Int)) (by walk_at "a") ?_
   rw[e]
   exact q _ le.ext
  ·rw[if_neg c] at e
   refine c_gtF (by walk_at "a") ?_
   repeat walk_at "mine"
   refine bi_lenS (by walk_at "a") ?_
   repeat walk_at "mine"
   refine o_addE (c:=((A.length+1:Nat):Int)) (by walk_at "a") ?_
   refine o_mulE (c:=((2*(A.length+1):Nat):Int)) (by walk_at "a") (mulS (a:=2) (by walk_at "a") (by walk_at "a")) ?_
   repeat walk_at "mine"
   refine row_range (by walk_at "a") fun E hE=>?_
   replace hE:τ.lists E=none:=hE
   have hE0:=le.none hE
   repeat walk_at "mine"
   refine bi_lenS (by walk_at "a") ?_
   repeat walk_at "mine"
   refine p_rg1 (n:=B.length) rfl (by walk_at "a") ?_
   refine ForOk.mk (LevI A B a b m E σ) ?_ (fun _ _ _ _=>trivial) ?_ ?_
   ·exact ⟨_,0,g0,g1,g2,rfl,rfl,setL_get,by walk_at "s",le.setL hE0,Nat.zero_le _,e⟩
   ·rintro i x τ1 hx ⟨row,res,v0,v1,v2,v5,v6,lE,hrl,le1,hi,e⟩
    obtain ⟨hiB,rfl⟩:=range_int hx
    rw[List.drop_eq_getElem_cons hiB] at e
    unfold lout at e
    have hbc:okc B[i]=true:=kB _ (List.getElem_mem hiB)
    have hgB:=List.getElem?_eq_getElem hiB
    generalize B[i]=bc at*
    repeat walk_at "mine"
    refine it_str hgB (by walk_at "a") ?_
    repeat walk_at "mine"
    refine o_mulE (c:=((i*2:Nat):Int)) (by walk_at "a") (mulS (b:=2) (by walk_at "a") (by walk_at "a")) ?_
    repeat walk_at "mine"
    refine bi_lenS (by walk_at "a") ?_
    repeat walk_at "mine"
    refine p_rg1 (n:=A.length) rfl (by walk_at "a") ?_
    dsimp only at e
    generalize hF:lrow bc A row (i*2) (i*2) 9223372036854775807=F at e
    refine ForOk.mk (LevJ A B m bc E σ F) ?_ (fun _ _ _ _=>trivial) ?_ ?_
    ·refine ⟨[],row,i*2,i*2,9223372036854775807,v0,v1,v2,v5,rfl,rfl,rfl,rfl,lE,rfl,by rw[hrl];lia,le1,?_⟩
     rw[←hF];rfl
    ·rintro j x τ2 hx ⟨done,rest,dist,res,mn,v0,v1,v2,v5,v6,v8,v9,v10,lE,hdl,hrl,le2,hf⟩
     obtain ⟨hjA,rfl⟩:=range_int hx
     obtain ⟨r,rs,rfl⟩: ∃r rs,rest=r::rs:=by
      cases rest with
      |nil=>simp at hrl;lia
      |cons r rs=>exact ⟨r,rs,rfl⟩
     rw[List.drop_eq_getElem_cons hjA] at hf
     unfold lrow at hf
     have hcA:okc A[j]=true:=kA _ (List.getElem_mem hjA)
     have hgA:=List.getElem?_eq_getElem hjA
     generalize A[j]=ca at*
     have hmid:(nints (done++r::rs))[j]? =some (V.int (r:Int)):=by rw[←hdl];exact nints_mid
     have hdone:(done++r::rs).length≤100:=by rw[List.length_append];simp at hrl⊢;lia
     repeat walk_at "mine"
     refine it_str hgA (by walk_at "a") ?_
     repeat walk_at "mine"
     refine ⟨S [bc],S [ca],rfl,by rw[S_len];simp,by rw[S_len];simp,?_⟩
     rw[sub_cost hbc hcA]
     refine o_addE (c:=((dist+cost bc ca:Nat):Int)) (by walk_at "a") ?_
     repeat walk_at "mine"
     refine it_lst (i:=j) lE hmid (by walk_at "a") ?_
     repeat walk_at "mine"
     refine bi_min ?_
     repeat walk_at "mine"
     refine o_addE (c:=((min res r+2:Nat):Int)) (by walk_at "a") ?_
     repeat walk_at "mine"
     refine bi_min ?_
     repeat walk_at "mine"
     refine sit_lst lE (by rw[nints_len,List.length_append];simp;lia) (by rw[nints_len];lia) ?_
     repeat walk_at "mine"
     rw[←hdl,nints_set]
     dsimp only at hf
     generalize hres:min (min res r+2) (dist+cost bc ca)=res' at*
     have next: ∀τ3:St,τ3.vars 0=some (.str (S A))→τ3.vars 1=some (.str (S B))→τ3.vars 2=some (.int (m:Int))→τ3.vars 5=some (.lst E)→τ3.vars 6=some (.int (res':Int))→τ3.vars 8=some (.str (S [bc]))→τ3.vars 9=some (.int (r:Int))→τ3.vars 10=some (.int ((min res' mn:Nat):Int))→τ3.lists E=some (nints ((done++[res'])++rs))→LE σ τ3→
             LevJ A B m bc E σ F (done.length+1) τ3:=by
      intro τ3 w0 w1 w2 w5 w6 w8 w9 w10 wE wle
      refine ⟨done++[res'],rs,r,res',min res' mn,w0,w1,w2,w5,w6,w8,w9,w10,wE,by walk_at "s",by simp at hrl;lia,wle,?_⟩
      rw[hdl,←hf]
      simp
     by_cases cm:res'<mn
     ·refine c_ltT (by walk_at "a") ?_
      repeat walk_at "mine"
      refine next _ v0 v1 v2 v5 rfl v8 rfl ?_ setL_get (le2.setL hE0)
      have:min res' mn=res':=by walk_at "a"
      rw[this];exact rfl
     ·refine c_ltF (by walk_at "a") ?_
      repeat walk_at "mine"
      refine next _ v0 v1 v2 v5 rfl v8 rfl ?_ setL_get (le2.setL hE0)
      have:min res' mn=mn:=by walk_at "a"
      rw[this];exact v10
    ·rintro τ2 ⟨done,rest,dist,res,mn,v0,v1,v2,v5,v6,v8,v9,v10,lE,hdl,hrl,le2,hf⟩
     simp only[List.length_map,List.length_range] at hdl hrl hf
     obtain rfl:rest=[]:=List.eq_nil_of_length_eq_zero (by walk_at "a")
     rw[List.drop_length] at hf
     unfold lrow at hf
     rw[←hf] at e
     dsimp only at e
     rw[List.append_nil] at lE e
     repeat walk_at "mine"
     by_cases cm:m<mn
     ·rw[if_pos cm] at e
      refine c_gtT (by walk_at "a") ?_
      repeat walk_at "mine"
      refine o_addE (c:=((m+1:Nat):Int)) (by walk_at "a") ?_
      rw[e]
      exact q _ le2.ext
     ·rw[if_neg cm] at e
      refine c_gtF (by walk_at "a") ?_
      repeat walk_at "mine"
      exact ⟨done,res,v0,v1,v2,v5,v6,lE,hdl,le2,by walk_at "a",e⟩
   ·rintro τ1 ⟨row,res,v0,v1,v2,v5,v6,lE,hrl,le1,hi,e⟩
    simp only[List.length_map,List.length_range] at e
    rw[List.drop_length] at e
    unfold lout at e
    repeat walk_at "mine"
    rw[e]
    exact q _ le1.ext
 repeat walk_at "mine"
 by_cases c:a=b
 ·refine c_eqsT c ?_
  repeat walk_at "mine"
  have:lev a b m=0:=by unfold lev;rw[if_pos c]
  rw[this] at q
  exact q _ LE.refl.ext
 ·refine c_eqsF c ?_
  repeat walk_at "mine"
  refine lev_pre rfl rfl rfl za zb ?_
  intro p τ1 p1 p2 e1 g0 g1 g3 g2 gl
  have le1:LE σ τ1:=fun b xs e=>by rw[gl];exact e
  have zA:(a.drop p).length≤100:=by rw[List.length_drop];lia
  have zB:(b.drop p).length≤100:=by rw[List.length_drop];lia
  have kA: ∀c∈a.drop p,okc c=true:=fun c h=>ka c (List.mem_of_mem_drop h)
  have kB: ∀c∈b.drop p,okc c=true:=fun c h=>kb c (List.mem_of_mem_drop h)
  repeat walk_at "mine"
  refine sl_from p1 (by walk_at "a") ?_
  repeat walk_at "mine"
  refine sl_from p2 (by walk_at "a") ?_
  repeat walk_at "mine"
  generalize hA1:a.drop p=A1 at*
  generalize hB1:b.drop p=B1 at*
  refine lev_post rfl rfl rfl zA zB ?_
  intro p' τ2 p1' p2' e2 f0 f1 f4 f2 fl
  have le2:LE σ τ2:=fun b xs e=>by rw[fl];exact le1 b xs e
  have f2':τ2.vars 2=some (.int (m:Int)):=by rw[f2];exact g2.trans rfl
  have e3:lev a b m=lev2 (A1.take (A1.length-p')) (B1.take (B1.length-p')) m:=by
   unfold lev
   rw[if_neg c,e1,e2,take_rev,take_rev]
  have zA':(A1.take (A1.length-p')).length≤100:=by rw[List.length_take];lia
  have zB':(B1.take (B1.length-p')).length≤100:=by rw[List.length_take];lia
  have kA': ∀c∈A1.take (A1.length-p'),okc c=true:=fun c h=>kA c (List.mem_of_mem_take h)
  have kB': ∀c∈B1.take (B1.length-p'),okc c=true:=fun c h=>kB c (List.mem_of_mem_take h)
  repeat walk_at "mine"
  refine or_cutV f4 ?_
  refine sl_cutV p1' (by walk_at "a") ?_
  repeat walk_at "mine"
  refine or_cutV f4 ?_
  refine sl_cutV p2' (by walk_at "a") ?_
  repeat walk_at "mine"
  generalize A1.take (A1.length-p')=A at*
  generalize B1.take (B1.length-p')=B at*
  unfold lev2 at e3
  by_cases nA:A=[]
  ·subst nA
   rw[if_pos (.inl rfl)] at e3
   refine t_strF ?_
   repeat walk_at "mine"
   refine bi_lenS (l:=[]) (by walk_at "s") ?_
   repeat walk_at "mine"
   refine bi_lenS (by walk_at "a") ?_
   refine o_addE (c:=((([]:List Nat).length+B.length:Nat):Int)) (by walk_at "a") ?_
   refine o_mulE (c:=((2*(([]:List Nat).length+B.length):Nat):Int)) (by walk_at "a") (mulS (a:=2) (by walk_at "a") (by simp;lia)) ?_
   rw[e3] at q
   exact q _ le2.ext
  ·refine t_strT nA (by walk_at "a") ?_
   repeat walk_at "mine"
   by_cases nB:B=[]
   ·subst nB
    rw[if_pos (.inr rfl)] at e3
    refine t_strF ?_
    repeat walk_at "mine"
    refine bi_lenS (by walk_at "a") ?_
    repeat walk_at "mine"
    refine bi_lenS (l:=[]) (by walk_at "s") ?_
    refine o_addE (c:=((A.length+([]:List Nat).length:Nat):Int)) (by walk_at "a") ?_
    refine o_mulE (c:=((2*(A.length+([]:List Nat).length):Nat):Int)) (by walk_at "a") (mulS (a:=2) (by walk_at "a") (by simp;lia)) ?_
    rw[e3] at q
    exact q _ le2.ext
   ·refine t_strT nB (by walk_at "a") ?_
    repeat walk_at "mine"
    rw[if_neg (fun h=>h.elim nA nB)] at e3
    refine bi_lenS (by walk_at "a") ?_
    repeat walk_at "mine"
    have long:(40<A.length∨40<B.length)→ ∀τ,LE σ τ→Q (V.int (((m:Nat):Int)+1)) ⟨σ.vars,τ.lists,σ.ro⟩:=fun c τ l=>by
     rw[if_pos c] at e3
     rw[e3] at q
     exact q _ l.ext
    by_cases c1:40<A.length
    ·refine c_gtT (by walk_at "a") ?_
     repeat walk_at "mine"
     refine o_addE rfl ?_
     exact long (.inl c1) _ le2
    ·refine c_gtF (by walk_at "a") ?_
     repeat walk_at "mine"
     refine bi_lenS (by walk_at "a") ?_
     repeat walk_at "mine"
     by_cases c2:40<B.length
     ·refine c_gtT (by walk_at "a") ?_
      repeat walk_at "mine"
      refine o_addE rfl ?_
      exact long (.inr c2) _ le2
     ·refine c_gtF (by walk_at "a") ?_
      repeat walk_at "mine"
      rw[if_neg (by walk_at "a")] at e3
      refine bi_lenS (by walk_at "a") ?_
      repeat walk_at "mine"
      refine bi_lenS (by walk_at "a") ?_
      by_cases c3:B.length<A.length
      ·rw[if_pos c3] at e3
       refine c_ltT (by walk_at "a") ?_
       repeat walk_at "mine"
       refine ⟨Nat.le_of_ble_eq_true rfl,_,rfl,rfl,?_⟩
       repeat walk_at "mine"
       exact fin B A _ rfl rfl f2' (by walk_at "a") (by walk_at "a") nA (by walk_at "a") kB' kA' le2 e3.symm
      ·rw[if_neg c3] at e3
       refine c_ltF (by walk_at "a") ?_
       repeat walk_at "mine"
       exact fin A B _ rfl rfl f2' (by walk_at "a") (by walk_at "a") nB (by walk_at "a") kA' kB' le2 e3.symm
theorem lev_sound (W:Wk C):FnSound C 2 W.a__levenshtein_distance T_lev:=
 FnSound.weak (fnAt_sound (m:=3) W W.f__levenshtein_distance (W_levenshtein_distance (k:=1) W (sub_sound W)).2 (fun pm cd doc vs h=>by
    obtain ⟨a,b,c,rfl⟩:=bind3 h
    rfl) (by kernel_rfl)) fun ds Q σ t=>con_lev W _ ds Q σ t
end
end
section
open PySem PySem.Spec PySem.Calls PyProof.Rows PySem.W
section
variable {C:Ctx} {k:Nat} {sc:Scope}
inductive LenR (Q:V→St→Prop) (l:List V) (σ:St):Prop
 |mk (x:List Int) (e:l=[.rl x]) (h:x.length≤sizeLine) (q:Q (.int (x.length:Int)) σ):LenR Q l σ
noncomputable def ptLenR (P:PT V):PT V:=fun Q σ=>ptArgs [P] (LenR Q) σ
theorem size63 {n:Nat} (h:n≤sizeLine):(n:Int)<2^63:=by
 have:sizeLine=16777216:=rfl
 lia
theorem v_lenR (W:Wk C) {np pos:Pos} {P:PT V} {e:Expr} {j:Nat} (h:NameOk sc j (Str.ofString "len") .globalImplicit) (ha:SoundEs C k sc [P] [e]):SoundE C k sc (ptLenR P) (.Call (.Name (Str.ofString "len") np) [e] [] pos):= .mk fun env A σ s Q hs hE hL hR q=>
 wpAny_Call_NameR (s_glob_builtin W.gl W.m_len W.b_len (by unfold Env.kindOf;rw[hs];exact h.look) hE hR (callWith_builtin (noStar ha pos env) (evalArgs_any (ha.hd env) (wpL (args_sound W.K ha hs hE hL hR q) fun vs s₁ xs σ₁ r1 R1 S1 v1 q'=>q'.casesOn fun x e hz q=>by
  subst e
  exact r1.e1 fun v r2=>by
   obtain ⟨rfl,rfl⟩:=rel_rl r2
   exact W.Z.at R1 fun items n l1 l2=>by
    have hlen:=l2.len
    rw[List.length_map,Array.length_toList] at hlen
    exact backE S1 v1 (call_len_list (items:=items) ⟨_,l1,rfl,n,rfl⟩ (hlen▸size63 hz) (Q:=PostE C env σ₁ s₁ Q) (.tok R1 of_int (by rw[←hlen];exact q)))))) h.dbg)
noncomputable def W_cells (W:Wk C):{P:PT Fl // SoundS C k Sc_law_cells P (fdBody (st 23))}:=⟨_,
(s_cons (v_asg1 W (v_an W 1 Sc_law_cells_1) (s_list W.K (.c s_int rfl (.c s_int rfl (.c s_int rfl (.c s_int rfl (.c s_int rfl (.c s_int rfl (.c s_int rfl (.c s_int rfl (.c (s_un s_int) rfl .nil)))))))))) rfl rfl rfl)
(s_cons (v_for W (v_range W Sc_law_cells_3 (.c (v_lenR W Sc_law_cells_4 (.c (v_loc 0 Sc_law_cells_0) rfl .nil)) rfl .nil)) (v_an W 2 Sc_law_cells_2) rfl rfl
(s_cons (v_augSub W (v_loc 1 Sc_law_cells_1) (s_bin W.K (v_loc 2 Sc_law_cells_2) s_int) (v_it W (v_loc 0 Sc_law_cells_0) (v_loc 2 Sc_law_cells_2) rfl) rfl)
s_nil))
(s_cons (s_ret (v_loc 1 Sc_law_cells_1))
s_nil)))⟩
theorem p_lenR {P:PT V} {Q:V→St→Prop} {σ:St} (q:ptArgs [P] (LenR Q) σ):ptLenR P Q σ:=q
noncomputable def ivs (l:List Int):List V:=l.map V.int
inductive T_cells (ds:List V) (Q:V→St→Prop) (σ:St):Prop
 |mk (scr) (h1:ds=[.rl scr]) (h2:scr.length≤63) (h3: ∀σ' D (c:List Int),Ext σ σ'→σ.lists D=none→σ'.lists D=some (ivs c)→c.length=9→Q (.lst D) σ'):T_cells ds Q σ
inductive CellI (scr:List Int) (D:Addr) (σ:St) (i:Nat) (τ:St):Prop
 |mk (c:List Int) (v0:τ.vars 0=some (.rl scr)) (v1:τ.vars 1=some (.lst D)) (lD:τ.lists D=some (ivs c)) (hc:c.length=9) (le:LE σ τ):CellI scr D σ i τ
theorem ivs_at {c:List Int} {i:Nat} (h:i<c.length):(ivs c)[i]? =some (V.int c[i]):=by unfold ivs;rw[List.getElem?_map,List.getElem?_eq_getElem h];rfl
theorem ivs_len (c:List Int):(ivs c).length=c.length:=List.length_map ..
theorem mod9 (i:Nat):((i%9:Nat):Int)<2^63:=by have:=Nat.mod_lt i (show 0<9 by decide);lia
theorem con_cells (W:Wk C) (ds:List V) (Q:V→St→Prop) (σ:St) (t:T_cells ds Q σ):fnCon 1 (W_cells (k:=k) W).1 ds Q σ:=by
 obtain ⟨scr,rfl,hs,q⟩:=t
 refine fn_con rfl ?_
 unfold W_cells
 dsimp only
 repeat walk_at "mine"
 refine u_neg rfl ?_
 repeat walk_at "mine"
 refine ⟨Nat.le_of_ble_eq_true rfl,fun D hD=>?_⟩
 replace hD:σ.lists D=none:=hD
 repeat walk_at "mine"
 refine p_lenR ?_
 repeat walk_at "mine"
 refine ⟨scr,rfl,Nat.le_trans hs (by decide),?_⟩
 repeat walk_at "mine"
 refine p_rg1 (n:=scr.length) rfl (Nat.le_trans hs (by decide)) ?_
 refine ForOk.mk (CellI scr D σ) ⟨[2361,44920137238,10170884,6,1,4,2,64, -1],rfl,rfl,setL_get,rfl,LE.refl.setL hD⟩ (fun _ _ _ _=>trivial) (fun i x τ hx t=>t.casesOn fun c v0 v1 lD hc le=>?_) (fun τ t=>t.casesOn fun c v0 v1 lD hc le=>?_)
 ·have hi:=range_int hx
  rw[hi.2]
  have h9:i%9<c.length:=by rw[hc];exact Nat.mod_lt _ (by decide)
  repeat walk_at "mine"
  refine o_modE (c:=((i%9:Nat):Int)) (n_fmod i 9) (by decide) ?_
  refine it_lst (i:=i%9) lD (ivs_at h9) (mod9 i) ?_
  repeat walk_at "mine"
  refine .rl (fits24 (Nat.le_trans (Nat.le_of_lt hi.1) (Nat.le_trans hs (by decide)))) (idx_nn hi.1) (List.getElem?_eq_getElem hi.1) ?_
  refine i_add rfl ?_
  refine sit_lst lD (by rw[ivs_len];exact h9) (by rw[ivs_len,hc];decide) ?_
  repeat walk_at "mine"
  exact ⟨c.set (i%9) (c[i%9]+scr[i]'hi.1),v0,v1,setL_get.trans (congrArg some (List.map_set ..).symm),by rw[List.length_set];exact hc,le.setL hD⟩
 ·repeat walk_at "mine"
  exact q _ D c le.ext hD lD hc
theorem cells_sound (W:Wk C):FnSound C 1 W.a__law_cells T_cells:=
 FnSound.weak (fnAt_sound (m:=1) W W.f__law_cells (W_cells (k:=0) W).2 (fun pm cd doc vs h=>by
    obtain ⟨a,rfl⟩:=bind1 h
    rfl) (by kernel_rfl)) fun ds Q σ t=>con_cells W ds Q σ t
end
end
section
open PySem PySem.Spec PySem.Calls PyProof.Rows PySem.W
section
variable {C:Ctx} {k:Nat} {σ:St} {Q:V→St→Prop} {QF:Fl→St→Prop} {F:PT Fl}
theorem m_append {a:Addr} {xs:List V} {y:V} (h:σ.lists a=some xs) (hz:xs.length+1≤sizeLine) (q:Q .none (setL σ a (xs++[y]))):mPT .append (.lst a) [y] Q σ:= .append h hz q
theorem m_pop {a:Addr} {xs:List V} {i:Nat} {y:V} (h:σ.lists a=some xs) (hz:xs.length≤sizeLine) (hy:xs[i]? =some y) (q:Q y (setL σ a (xs.eraseIdx i))):mPT .pop (.lst a) [.int (i:Int)] Q σ:= .pop h hz (Int.natCast_nonneg i) hy q
theorem fit_lst {m:Mth} {a:Addr} {xs:List V} {p:Prop} (hm:mFit m (.lst a) σ=((σ.lists a).isSome=true)) (h:σ.lists a=some xs) (q:p):mFit m (.lst a) σ∧p:=⟨by rw[hm,h];rfl,q⟩
noncomputable def chV (c:Nat):V:= .str (S [c])
noncomputable def dg (x:Int):List Nat→List Nat
 |[]=>[]
 |s::ss=>(x.fmod (s:Int)).toNat::dg (x.fdiv (s:Int)) ss
noncomputable def popD:List Nat→List Nat→List Nat
 |l,d::ds=>l.getD d 0::popD (l.eraseIdx d) ds
 |_,[]=>[]
noncomputable def fillD:List Nat→List Nat→List Nat→List Nat→List Nat
 |c::cs,p::sp,d::ds,w=>fillD cs (sp.eraseIdx d) ds ((w.set p c).set (sp.getD d 0) c)
 |_,_,_,w=>w
noncomputable def ordN (a b c:Nat):List Nat:=popD [102,105,115,116] [a,b,c,0]
noncomputable def pat (d e f:Nat):List Nat:=fillD [1,2,3,4] [0,1,2,3,4,5,6,7] [d,e,f,0] [0,0,0,0,0,0,0,0]
noncomputable def wordN (a b c d e f:Nat):List Nat:=(pat d e f).map fun j=>(ordN a b c).getD (j-1) 0
theorem pat_ok:(List.range 7).all (fun d=>(List.range 5).all fun e=>(List.range 3).all fun f=>(pat d e f).length==8&&(pat d e f).all fun j=>decide (1≤j)&&decide (j≤4))=true:=by decide+kernel
theorem pat_of {d e f:Nat} (hd:d<7) (he:e<5) (hf:f<3):(pat d e f).length=8∧ ∀j∈pat d e f,1≤j∧j≤4:=by
 have:=List.all_eq_true.mp (List.all_eq_true.mp (List.all_eq_true.mp pat_ok d (List.mem_range.mpr hd)) e (List.mem_range.mpr he)) f (List.mem_range.mpr hf)
 simpa using this
theorem fmod_lt {x:Int} {s:Nat} (h:0<s):(x.fmod (s:Int)).toNat<s∧x.fmod (s:Int)=((x.fmod (s:Int)).toNat:Int):=by
 have h1:=Int.fmod_nonneg_of_pos x (b:=(s:Int)) (by walk_at "a")
 have h2:=Int.fmod_lt_of_pos x (b:=(s:Int)) (by walk_at "a")
 lia
inductive T_word (ds:List V) (Q:V→St→Prop) (σ:St):Prop
 |mk (cell:Int) (h1:ds=[.int cell]) (h2: ∀σ' D a b c d e f,Ext σ σ'→σ.lists D=none→a<4→b<3→c<2→d<7→e<5→f<3→σ'.lists D=some ((wordN a b c d e f).map chV)→Q (.lst D) σ'):T_word ds Q σ
theorem map_erase {α β:Type} (f:α→β) (l:List α) (i:Nat):(l.map f).eraseIdx i=(l.eraseIdx i).map f:=by
 rw[List.eraseIdx_eq_take_drop_succ,List.eraseIdx_eq_take_drop_succ];simp
theorem fresh {D a:Addr} {xs:List V} (h:(setL σ a xs).lists D=none):D≠a∧σ.lists D=none:=by
 have hne:D≠a:=fun z=>by subst z;exact absurd (setL_get.symm.trans h) (by walk_at "s")
 exact ⟨hne,(setL_other hne).symm.trans h⟩
theorem size4 {i:Nat} {x:V} (h:(nints [4,3,2,1])[i]? =some x):i<4∧x= .int ((4-i:Nat):Int)∧[4,3,2,1].drop i=(4-i)::[4,3,2,1].drop (i+1):=by
 match i,h with
 |0,h=>cases h;exact ⟨by decide,rfl,rfl⟩
 |1,h=>cases h;exact ⟨by decide,rfl,rfl⟩
 |2,h=>cases h;exact ⟨by decide,rfl,rfl⟩
 |3,h=>cases h;exact ⟨by decide,rfl,rfl⟩
 |n+4,h=>exact absurd h (by simp[nints])
theorem chars4:[V.str (Str.ofString "f"),V.str (Str.ofString "i"),V.str (Str.ofString "s"),V.str (Str.ofString "t")]=[102,105,115,116].map chV:=by
 have h1:Str.ofString "f" =S [102]:=by kernel_rfl
 have h2:Str.ofString "i" =S [105]:=by kernel_rfl
 have h3:Str.ofString "s" =S [115]:=by kernel_rfl
 have h4:Str.ofString "t" =S [116]:=by kernel_rfl
 rw[h1,h2,h3,h4];rfl
noncomputable def gV (o:List Nat) (j:Nat):V:=if j=0 then .str (Str.ofString "") else chV (o.getD (j-1) 0)
theorem size8 {o:List Nat} {i:Nat} {x:V} (ho:o.length=4) (h:(o.map chV)[i]? =some x):i<4∧x=gV o (i+1)∧[7,5,3,1].drop i=(7-2*i)::[7,5,3,1].drop (i+1)∧[1,2,3,4].drop i=(i+1)::[1,2,3,4].drop (i+1):=by
 have hi:i<4:=by
  have:=(List.getElem?_eq_some_iff.mp h).1
  rw[List.length_map,ho] at this;exact this
 refine ⟨hi,?_,?_⟩
 ·rw[List.getElem?_map,List.getElem?_eq_getElem (by walk_at "a")] at h
  cases h
  unfold gV
  rw[if_neg (by walk_at "a"),Nat.add_sub_cancel,List.getD_eq_getElem?_getD,List.getElem?_eq_getElem (by walk_at "a")];rfl
 ·match i,hi with
  |0,_=>exact ⟨rfl,rfl⟩
  |1,_=>exact ⟨rfl,rfl⟩
  |2,_=>exact ⟨rfl,rfl⟩
  |3,_=>exact ⟨rfl,rfl⟩
inductive WdI (cell:Int) (Lt O Z:Addr) (σ:St) (FIN:List Nat) (i:Nat) (τ:St):Prop
 |mk (l o:List Nat) (left:Int) (h1:τ.vars 0=some (.int cell)) (h2:τ.vars 1=some (.lst Lt)) (h3:τ.vars 2=some (.lst O)) (h4:τ.vars 3=some (.int left)) (h5:τ.lists Lt=some (l.map chV)) (h6:τ.lists O=some (o.map chV)) (h7:τ.lists Z=some (nints [4,3,2,1])) (h8:LE σ τ) (h9:l.length=4-i) (h10:o.length=i) (h11:o++popD l (dg left ([4,3,2,1].drop i))=FIN):WdI cell Lt O Z σ FIN i τ
inductive WdJ (o:List Nat) (O Sp Wd:Addr) (σ:St) (PAT:List Nat) (i:Nat) (τ':St):Prop
 |mk (sp w:List Nat) (left:Int) (h1:τ'.vars 2=some (.lst O)) (h2:τ'.vars 3=some (.int left)) (h3:τ'.vars 5=some (.lst Sp)) (h4:τ'.vars 6=some (.lst Wd)) (h5:τ'.lists O=some (o.map chV)) (h6:τ'.lists Sp=some (nints sp)) (h7:τ'.lists Wd=some (w.map (gV o))) (h8:LE σ τ') (h9:sp.length=8-2*i) (h10:w.length=8) (h11:(∀x∈sp,x<8)) (h12:fillD ([1,2,3,4].drop i) sp (dg left ([7,5,3,1].drop i)) w=PAT):WdJ o O Sp Wd σ PAT i τ'
theorem con_word (W:Wk C) (ds:List V) (Q:V→St→Prop) (σ:St) (t:T_word ds Q σ):fnCon 1 (W_law_word (k:=k) W).1 ds Q σ:=by
 obtain ⟨cell,rfl,q⟩:=t
 refine fn_con rfl ?_
 unfold W_law_word
 dsimp only
 have hz:10000≤sizeLine:=Nat.le_of_ble_eq_true rfl
 generalize hT:(ptSeq (ptAsgs [atName 5] _) _:PT Fl)=T
 repeat walk_at "mine"
 refine ⟨Nat.le_of_ble_eq_true rfl,fun Lt hLt=>?_⟩
 replace hLt:σ.lists Lt=none:=hLt
 repeat walk_at "mine"
 refine ⟨Nat.le_of_ble_eq_true rfl,fun O hO=>?_⟩
 obtain ⟨hOL,hO⟩:=fresh hO
 replace hO:σ.lists O=none:=hO
 repeat walk_at "mine"
 refine o_div (by decide) (by decide) ?_
 repeat walk_at "mine"
 refine ⟨Nat.le_of_ble_eq_true rfl,fun Z hZ=>?_⟩
 obtain ⟨hZO,hZ⟩:=fresh hZ
 obtain ⟨hZL,hZ⟩:=fresh hZ
 replace hZ:σ.lists Z=none:=hZ
 repeat walk_at "mine"
 refine ⟨Z,nints [4,3,2,1],rfl,setL_get,?_⟩
 generalize hFIN:popD [102,105,115,116] (dg (cell.fdiv 105) [4,3,2,1])=FIN
 refine ForOk.mk (WdI cell Lt O Z σ FIN) ?_ ?_ ?_ ?_
 ·refine ⟨[102,105,115,116],[],cell.fdiv 105,rfl,rfl,rfl,rfl,?_,?_,setL_get,?_,rfl,rfl,hFIN⟩
  ·refine (setL_other (Ne.symm hZL)).trans ((setL_other (Ne.symm hOL)).trans (setL_get.trans ?_))
   rw[chars4]
  ·exact (setL_other (Ne.symm hZO)).trans setL_get
  ·exact ((LE.refl.setL hLt).setL hO).setL hZ
 ·rintro i τ _ ⟨l,o,left,v0,v1,v2,v3,lL,lO,lZ,_⟩;exact lZ
 ·rintro i x τ hx ⟨l,o,left,v0,v1,v2,v3,lL,lO,lZ,le,ll,lo,e⟩
  obtain ⟨hi,rfl,hd⟩:=size4 hx
  rw[hd] at e
  unfold dg popD at e
  obtain ⟨m1,m2⟩:=fmod_lt (x:=left) (s:=4-i) (by walk_at "a")
  generalize (left.fmod ((4-i:Nat):Int)).toNat=d at*
  have hdl:d<l.length:=by walk_at "a"
  repeat walk_at "mine"
  refine fit_lst rfl lO ?_
  repeat walk_at "mine"
  refine fit_lst rfl lL ?_
  repeat walk_at "mine"
  refine o_modE m2 (by walk_at "a") ?_
  repeat walk_at "mine"
  refine m_pop (y:=chV (l.getD d 0)) lL (by rw[List.length_map];lia) ?_ ?_
  ·rw[List.getElem?_map,List.getD_eq_getElem?_getD,List.getElem?_eq_getElem hdl];rfl
  repeat walk_at "mine"
  refine m_append ((setL_other hOL).trans lO) (by rw[List.length_map];lia) ?_
  repeat walk_at "mine"
  refine .div (by walk_at "a") (by walk_at "a") ?_
  repeat walk_at "mine"
  refine ⟨l.eraseIdx d,o++[l.getD d 0],left.fdiv ((4-i:Nat):Int),v0,v1,v2,rfl,?_,?_,?_,?_,?_,?_,?_⟩
  ·refine (setL_other (Ne.symm hOL)).trans (setL_get.trans ?_)
   rw[map_erase]
  ·refine setL_get.trans ?_
   rw[List.map_append];rfl
  ·exact (setL_other hZO).trans ((setL_other hZL).trans lZ)
  ·exact (le.setL hLt).setL hO
  ·rw[List.length_eraseIdx,if_pos hdl];lia
  ·rw[List.length_append,lo];rfl
  ·rw[←e,List.append_assoc];rfl
 ·rintro τ ⟨l,o,left,v0,v1,v2,v3,lL,lO,lZ,le,ll,lo,e⟩
  replace lo:o.length=4:=lo
  replace e:o++popD l (dg left [])=FIN:=e
  unfold dg popD at e
  rw[List.append_nil] at e
  subst e
  have hoN:o=ordN (((cell.fdiv 105).fmod (4:Nat)).toNat) ((((cell.fdiv 105).fdiv (4:Nat)).fmod (3:Nat)).toNat) (((((cell.fdiv 105).fdiv (4:Nat)).fdiv (3:Nat)).fmod (2:Nat)).toNat):=by
   rw[←hFIN]
   unfold ordN dg dg dg dg dg
   have:=(fmod_lt (x:=(((cell.fdiv 105).fdiv (4:Nat)).fdiv (3:Nat)).fdiv (2:Nat)) (s:=1) (by decide)).1
   have:(((((cell.fdiv 105).fdiv (4:Nat)).fdiv (3:Nat)).fdiv (2:Nat)).fmod (1:Nat)).toNat=0:=by walk_at "a"
   rw[this]
  have hpat:fillD [1,2,3,4] [0,1,2,3,4,5,6,7] (dg cell [7,5,3,1]) [0,0,0,0,0,0,0,0]=pat ((cell.fmod (7:Nat)).toNat) (((cell.fdiv (7:Nat)).fmod (5:Nat)).toNat) ((((cell.fdiv (7:Nat)).fdiv (5:Nat)).fmod (3:Nat)).toNat):=by
   unfold pat dg dg dg dg dg
   have:=(fmod_lt (x:=(((cell.fdiv (7:Nat)).fdiv (5:Nat)).fdiv (3:Nat))) (s:=1) (by decide)).1
   have:((((cell.fdiv (7:Nat)).fdiv (5:Nat)).fdiv (3:Nat)).fmod (1:Nat)).toNat=0:=by walk_at "a"
   rw[this]
  generalize hPAT:fillD [1,2,3,4] [0,1,2,3,4,5,6,7] (dg cell [7,5,3,1]) [0,0,0,0,0,0,0,0]=PAT at*
  rw[←hT]
  repeat walk_at "mine"
  refine ⟨Nat.le_of_ble_eq_true rfl,fun Sp hSp=>?_⟩
  replace hSp:τ.lists Sp=none:=hSp
  have hSO:Sp≠O:=fun z=>by rw[z,lO] at hSp;cases hSp
  have hSp0:=le.none hSp
  repeat walk_at "mine"
  refine ⟨Nat.le_of_ble_eq_true rfl,fun Wd hWd=>?_⟩
  obtain ⟨hWS,hWd⟩:=fresh hWd
  replace hWd:τ.lists Wd=none:=hWd
  have hWO:Wd≠O:=fun z=>by rw[z,lO] at hWd;cases hWd
  have hWd0:=le.none hWd
  repeat walk_at "mine"
  refine ⟨O,o.map chV,rfl,(setL_other (Ne.symm hWO)).trans ((setL_other (Ne.symm hSO)).trans lO),?_⟩
  refine ForOk.mk (WdJ o O Sp Wd σ PAT) ?_ ?_ ?_ ?_
  ·refine ⟨[0,1,2,3,4,5,6,7],[0,0,0,0,0,0,0,0],cell,v2,rfl,rfl,rfl,(setL_other (Ne.symm hWO)).trans ((setL_other (Ne.symm hSO)).trans lO),(setL_other (Ne.symm hWS)).trans setL_get,setL_get,(le.setL hSp0).setL hWd0,rfl,rfl,by decide,hPAT⟩
  ·rintro i τ _ ⟨_,_,_,_,_,_,_,h,_⟩;exact h
  ·rintro i x τ1 hx ⟨sp,w,left,w2,w3,w5,w6,kO,kS,kW,le1,hsl,hwl,hs8,e⟩
   obtain ⟨hi,rfl,hd,hc⟩:=size8 lo hx
   rw[hd,hc] at e
   obtain ⟨p,sp,rfl⟩: ∃p sp',sp=p::sp':=by
    cases sp with
    |nil=>simp at hsl;lia
    |cons p sp=>exact ⟨p,sp,rfl⟩
   have hsl':sp.length=7-2*i:=by simp at hsl;lia
   unfold dg fillD at e
   obtain ⟨m1,m2⟩:=fmod_lt (x:=left) (s:=7-2*i) (by walk_at "a")
   generalize (left.fmod ((7-2*i:Nat):Int)).toNat=d at*
   have hdl:d<sp.length:=by walk_at "a"
   have hp8:p<8:=hs8 p (by walk_at "s")
   have hq8:sp.getD d 0<8:=by
    rw[List.getD_eq_getElem?_getD,List.getElem?_eq_getElem hdl]
    exact hs8 _ (List.mem_cons_of_mem _ (List.getElem_mem hdl))
   repeat walk_at "mine"
   refine fit_lst rfl kS ?_
   repeat walk_at "mine"
   refine m_pop (i:=0) (y:= .int (p:Int)) kS (by rw[nints_len];simp at hsl⊢;lia) rfl ?_
   refine sit_lst (i:=p) (xs:=w.map (gV o)) ((setL_other hWS).trans kW) (by rw[List.length_map];lia) (by rw[List.length_map];lia) ?_
   repeat walk_at "mine"
   refine bi_len (xs:=nints sp) ((setL_other (Ne.symm hWS)).trans (setL_get.trans rfl)) (by rw[nints_len];lia) ?_
   rw[nints_len,hsl']
   repeat walk_at "mine"
   refine fit_lst rfl ((setL_other (Ne.symm hWS)).trans (setL_get.trans rfl)) ?_
   repeat walk_at "mine"
   refine o_modE m2 (by walk_at "a") ?_
   repeat walk_at "mine"
   refine m_pop (xs:=nints sp) (y:= .int ((sp.getD d 0:Nat):Int)) ((setL_other (Ne.symm hWS)).trans (setL_get.trans rfl)) (by rw[nints_len];lia) ?_ ?_
   ·unfold nints
    rw[List.getElem?_map,List.getD_eq_getElem?_getD,List.getElem?_eq_getElem hdl];rfl
   refine sit_lst (i:=sp.getD d 0) (xs:=(w.map (gV o)).set p (gV o (i+1))) ((setL_other hWS).trans setL_get) (by rw[List.length_set,List.length_map];lia) (by rw[List.length_set,List.length_map];lia) ?_
   repeat walk_at "mine"
   refine .div (by walk_at "a") (by walk_at "a") ?_
   repeat walk_at "mine"
   refine ⟨sp.eraseIdx d,(w.set p (i+1)).set (sp.getD d 0) (i+1),left.fdiv ((7-2*i:Nat):Int),w2,rfl,w5,w6,?_,?_,?_,?_,?_,?_,?_,e⟩
   ·exact (setL_other (Ne.symm hWO)).trans ((setL_other (Ne.symm hSO)).trans ((setL_other (Ne.symm hWO)).trans ((setL_other (Ne.symm hSO)).trans kO)))
   ·refine (setL_other (Ne.symm hWS)).trans (setL_get.trans ?_)
    unfold nints
    rw[map_erase]
   ·refine setL_get.trans ?_
    rw[List.map_set,List.map_set]
   ·exact (((le1.setL hSp0).setL hWd0).setL hSp0).setL hWd0
   ·rw[List.length_eraseIdx,if_pos hdl];lia
   ·rw[List.length_set,List.length_set,hwl]
   ·intro x hx
    exact hs8 x (List.mem_cons_of_mem _ (List.mem_of_mem_eraseIdx hx))
  ·rintro τ1 ⟨sp,w,left,w2,w3,w5,w6,kO,kS,kW,le1,hsl,hwl,hs8,e⟩
   rw[List.length_map,lo] at e
   replace e:fillD [] sp (dg left []) w=PAT:=e
   unfold fillD at e
   repeat walk_at "mine"
   have m1:=(fmod_lt (x:=cell.fdiv 105) (s:=4) (by decide)).1
   have m2:=(fmod_lt (x:=(cell.fdiv 105).fdiv (4:Nat)) (s:=3) (by decide)).1
   have m3:=(fmod_lt (x:=((cell.fdiv 105).fdiv (4:Nat)).fdiv (3:Nat)) (s:=2) (by decide)).1
   have m4:=(fmod_lt (x:=cell) (s:=7) (by decide)).1
   have m5:=(fmod_lt (x:=cell.fdiv (7:Nat)) (s:=5) (by decide)).1
   have m6:=(fmod_lt (x:=(cell.fdiv (7:Nat)).fdiv (5:Nat)) (s:=3) (by decide)).1
   refine q _ Wd _ _ _ _ _ _ le1.ext hWd0 m1 m2 m3 m4 m5 m6 ?_
   refine kW.trans ?_
   rw[e]
   unfold wordN
   rw[←hpat,←hoN,List.map_map]
   congr 1
   refine List.map_congr_left fun j hj=>?_
   rw[hpat] at hj
   have:=(pat_of m4 m5 m6).2 j hj
   unfold gV
   rw[if_neg (by walk_at "a")];rfl
theorem word_sound (W:Wk C):FnSound C 1 W.a__law_word T_word:=
 FnSound.weak (fnAt_sound (m:=1) W W.f__law_word (W_law_word (k:=0) W).2 (fun pm cd doc vs h=>by
    obtain ⟨a,rfl⟩:=bind1 h
    rfl) (by kernel_rfl)) fun ds Q σ t=>con_word W ds Q σ t
end
end
section
open PySem PySem.Spec PySem.Calls PyProof.Rows PySem.W
section
noncomputable def mapB3 (c:Nat):Str:=match F3L (c:Int) with
 |some x=>x
 |none=>Txt.lower (S [c])
noncomputable def mapC (c:Nat):List Nat:=if setIn b1L (c:Int)=true then [] else (mapB3 c).cps.toList
noncomputable def prepF (l:List Nat):List Nat:=l.flatMap mapC
noncomputable def L4:List Nat:=[102,105,115,116]
noncomputable def hiddenL:List Nat:=[173,847,6150,6155,6156,6157,8203,8204,8205,8288,65279,65024,65025,65026,65027,65028,65029,65030,65031,65032,65033,65034,65035,65036,65037,65038,65039]
noncomputable def greatL:List Nat:=[119808,119860,119912,120016,120172,120224,120276,120328,120380,120432]
noncomputable def stayL:List Nat:=[172,174,846,848,6149,6151,6154,6158,8202,8206,8287,8289,65023,65040,65278,65280]
theorem mc1:L4.all (fun c=>mapC c==[c])=true:=by decide+kernel
theorem mc2:hiddenL.all (fun c=>mapC c==[])=true:=by decide+kernel
theorem mc3:greatL.all (fun g=>L4.all fun c=>mapC (g+c-97)==[c])=true:=by decide+kernel
theorem mc4:(mapC 64256==[102,102]&&mapC 64257==[102,105]&&mapC 223==[115,115]&&mapC 64262==[115,116])=true:=by decide+kernel
theorem mc5:L4.all (fun c=>mapC (c-32)==[c]&&Txt.upper (S [c])==S [c-32]&&Txt.lower (S [c])==S [c]&&Txt.lower (S [c-32])==S [c])=true:=by decide+kernel
theorem mc6:stayL.all (fun c=>mapC c==[c])=true:=by decide+kernel
end
section
variable {C:Ctx} {k:Nat} {σ:St} {Q:V→St→Prop} {QB:Bool→St→Prop} {QF:Fl→St→Prop} {P R:PT V}
theorem p_inset {Sf:Int→Bool} (q:P (fun v σ₁=> ∃i,v= .int i∧Q (.bool (Sf i)) σ₁) σ):ptInSet Sf P Q σ:=q
theorem p_get {Ff:Int→Option Str} (q:P (fun v σ₁=> ∃i,v= .int i∧Q (oStr (Ff i)) σ₁) σ):ptGet Ff P Q σ:=q
theorem p_dict {l:List (Str×Int)} (q: ∀a o,σ.lists a=none→σ.ro a=none→a≠sysModules→IsJ C (lookJ l) o→Q (.fn a) (addRo σ a o)):ptDict (C:=C) l Q σ:=q
theorem p_inJ {J:Str→Option Int} (q:P (fun x σ₁=>R (fun d σ₂=>JR C J (fun o=>QB o.isSome) σ₂ x d) σ₁) σ):ptInJ (C:=C) J P R QB σ:=q
theorem p_itJ {J:Str→Option Int} (q:P (fun d σ₁=>R (fun x σ₂=>JR C J (fun o σ=> ∃i,o=some i∧Q (.int i) σ) σ₂ x d) σ₁) σ):ptItJ (C:=C) J P R Q σ:=q
theorem bi_ord {c:Nat} (q:Q (.int (c:Int)) σ):biPT .ord [.str (S [c])] Q σ:= .ord rfl q
theorem bi_chr {n:Nat} (h:n≤1114111) (q:Q (.str (S [n])) σ):biPT .chr [.int (n:Int)] Q σ:= .chr (Int.natCast_nonneg n) (by lia) q
theorem o_addS {a b:List Nat} (h:a.length+b.length≤16777216) (q:Q (.str (S (a++b))) σ):opPT .Add (.str (S a)) (.str (S b)) Q σ:=by
 refine o_adds (by rw[S_len,S_len];exact h) ?_
 rw[S_app];exact q
theorem i_addS {a b:List Nat} (h:a.length+b.length≤16777216) (q:Q (.str (S (a++b))) σ):ipPT .Add (.str (S a)) (.str (S b)) Q σ:=by
 refine .addS (by rw[S_len,S_len];exact h) ?_
 rw[S_app];exact q
theorem join_S: ∀ls:List (List Nat),Txt.join (S []) (ls.map S)=S ls.flatten:=by
 intro ls
 show Builtin.Str.glued (S []) (ls.map S)=_
 rw[StrLaws.glued_eq_join]
 induction ls with
 |nil=>rfl
 |cons x r ih=>
  cases r with
  |nil=>simp only[List.map_cons,List.map_nil,List.flatten_cons,List.flatten_nil,List.append_nil];rfl
  |cons y r=>
   have:Str.join (S []) ((x::y::r).map S)=S x++S []++Str.join (S []) ((y::r).map S):=rfl
   rw[this,ih,S_app,S_app,List.append_nil];rfl
theorem m_join {a:Addr} {ls:List (List Nat)} (h:σ.lists a=some ((ls.map S).map V.str)) (hz:(ls.map (·.length)).sum≤16777216) (q:Q (.str (S ls.flatten)) σ):mPT .join (.str (S [])) [.lst a] Q σ:=by
 refine .join (ys:=ls.map S) h ?_ ?_
 ·have e:(S []).length=0:=rfl
  rw[e,Nat.mul_zero,Nat.add_zero,List.map_map]
  have:((fun x:Str=>x.length)∘S)=(fun x=>x.length):=by funext x;exact S_len x
  rw[this];exact hz
 ·rw[join_S];exact q
theorem cut_mid {α:Type} {l:List α} {p q:Nat} (h:p≤l.length):cut l (some (p:Int)) (some (q:Int))=(l.drop p).take (q-p):=by
 unfold cut
 rw[kms_lo_nat h]
 have:kms_hi (some (q:Int)) l.length=min q l.length:=by
  unfold kms_hi;simp only;rw[if_neg (by walk_at "a")];congr 1
 rw[this]
 by_cases c:q≤l.length
 ·rw[Nat.min_eq_left c]
 ·rw[Nat.min_eq_right (by walk_at "a"),List.take_of_length_le (by rw[List.length_drop];lia),List.take_of_length_le (by rw[List.length_drop];lia)]
theorem sl_lst {a:Addr} {xs:List V} {p q:Nat} (h:σ.lists a=some xs) (hz:xs.length≤sizeLine) (hp:p≤xs.length) (hq: ∀c,σ.lists c=none→Q (.lst c) (setL σ c ((xs.drop p).take (q-p)))):slPT (.lst a) (.int (p:Int)) (.int (q:Int)) Q σ:=by
 refine .lst (lo:=some (p:Int)) (hi:=some (q:Int)) rfl rfl h hz fun c hc=>?_
 rw[cut_mid hp];exact hq c hc
theorem str_nil:Str.ofString "" =S []:=by kernel_rfl
inductive T_b1 (ds:List V) (Q:V→St→Prop) (σ:St):Prop
 |mk (c:Nat) (h1:ds=[.str (S [c])]) (h2:Q (.bool (setIn b1L (c:Int))) σ):T_b1 ds Q σ
inductive T_b3 (ds:List V) (Q:V→St→Prop) (σ:St):Prop
 |mk (c:Nat) (h1:ds=[.str (S [c])]) (h2:Q (.str (mapB3 c)) σ):T_b3 ds Q σ
theorem con_b1 (W:Wk C) (T:Wt C W) (hS:T.S1=setIn b1L) (ds:List V) (Q:V→St→Prop) (σ:St) (t:T_b1 ds Q σ):fnCon 1 (Win_table_b1 (k:=k) W T).1 ds Q σ:=by
 obtain ⟨c,rfl,q⟩:=t
 refine fn_con rfl ?_
 unfold Win_table_b1
 dsimp only
 repeat walk_at "mine"
 refine p_inset ?_
 repeat walk_at "mine"
 refine bi_ord ?_
 refine ⟨c,rfl,?_⟩
 rw[hS];exact q
theorem con_b3 (W:Wk C) (T:Wt C W) (hF:T.F3=F3L) (ds:List V) (Q:V→St→Prop) (σ:St) (t:T_b3 ds Q σ):fnCon 1 (Wmap_table_b3 (k:=k) W T).1 ds Q σ:=by
 obtain ⟨c,rfl,q⟩:=t
 refine fn_con rfl ?_
 unfold Wmap_table_b3
 dsimp only
 repeat walk_at "mine"
 refine p_get ?_
 repeat walk_at "mine"
 refine bi_ord ?_
 refine ⟨c,rfl,?_⟩
 rw[hF]
 unfold mapB3 at q
 generalize F3L (c:Int)=r at*
 cases r with
 |some x=>
  repeat walk_at "mine"
  refine .notN (b:=false) rfl ?_
  repeat walk_at "mine"
  exact q
 |none=>
  repeat walk_at "mine"
  refine .notN (b:=true) rfl ?_
  repeat walk_at "mine"
  refine m_lower (by rw[S_len];simp) ?_
  exact q
theorem b1_sound (W:Wk C) (T:Wt C W) (hS:T.S1=setIn b1L):FnSound C 1 W.a_in_table_b1 T_b1:=
 FnSound.weak (fnAt_sound (m:=1) W W.f_in_table_b1 (Win_table_b1 (k:=0) W T).2 (fun pm cd doc vs h=>by
    obtain ⟨a,rfl⟩:=bind1 h
    rfl) (by kernel_rfl)) fun ds Q σ t=>con_b1 W T hS ds Q σ t
theorem b3_sound (W:Wk C) (T:Wt C W) (hF:T.F3=F3L):FnSound C 1 W.a_map_table_b3 T_b3:=
 FnSound.weak (fnAt_sound (m:=1) W W.f_map_table_b3 (Wmap_table_b3 (k:=0) W T).2 (fun pm cd doc vs h=>by
    obtain ⟨a,rfl⟩:=bind1 h
    rfl) (by kernel_rfl)) fun ds Q σ t=>con_b3 W T hF ds Q σ t
end
end
section
open PySem PySem.Spec PySem.Calls PyProof.Rows PySem.W
section
variable {C:Ctx} {k:Nat}
theorem prep_app (a b:List Nat):prepF (a++b)=prepF a++prepF b:=List.flatMap_append ..
theorem prep_one (c:Nat):prepF [c]=mapC c:=by unfold prepF;simp
theorem mc1' {c:Nat} (h:c∈L4):mapC c=[c]:=eq_of_beq (List.all_eq_true.mp mc1 c h)
theorem mc2' {c:Nat} (h:c∈hiddenL):mapC c=[]:=eq_of_beq (List.all_eq_true.mp mc2 c h)
theorem mc3' {g c:Nat} (h:g∈greatL) (h':c∈L4):mapC (g+c-97)=[c]:=eq_of_beq (List.all_eq_true.mp (List.all_eq_true.mp mc3 g h) c h')
theorem mc5' {c:Nat} (h:c∈L4):mapC (c-32)=[c]∧Txt.upper (S [c])=S [c-32]∧Txt.lower (S [c])=S [c]∧Txt.lower (S [c-32])=S [c]:=by
 have:=List.all_eq_true.mp mc5 c h
 simp only[Bool.and_eq_true,beq_iff_eq] at this
 exact ⟨this.1.1.1,this.1.1.2,this.1.2,this.2⟩
theorem lit_pairs:Str.ofString "ff" =S [102,102]∧Str.ofString "fi" =S [102,105]∧Str.ofString "ss" =S [115,115]∧Str.ofString "st" =S [115,116]:=⟨by kernel_rfl,by kernel_rfl,by kernel_rfl,by kernel_rfl⟩
theorem joined_some {pr:List Nat} {i:Int} (h:lookJ joinedL (S pr)=some i): ∃n:Nat,i=n∧n≤1114111∧mapC n=pr∧pr.length=2:=by
 have hm:=mc4
 simp only[Bool.and_eq_true,beq_iff_eq] at hm
 obtain ⟨⟨⟨h1,h2⟩,h3⟩,h4⟩:=hm
 obtain ⟨p1,p2,p3,p4⟩:=lit_pairs
 unfold lookJ at h
 cases hf:joinedL.find? fun p=>p.1=S pr with
 |none=>rw[hf] at h;cases h
 |some p=>
  rw[hf] at h
  cases h
  have e:=of_decide_eq_true (List.find?_some (p:=fun p:Str×Int=>decide (p.1=S pr)) hf)
  have m:=List.mem_of_find?_eq_some hf
  unfold joinedL at m
  simp only[List.mem_cons,List.not_mem_nil,or_false] at m
  rcases m with rfl|rfl|rfl|rfl
  ·have:=S_inj.mp (p1.symm.trans e);subst this;exact ⟨64256,rfl,by decide,h1,rfl⟩
  ·have:=S_inj.mp (p2.symm.trans e);subst this;exact ⟨64257,rfl,by decide,h2,rfl⟩
  ·have:=S_inj.mp (p3.symm.trans e);subst this;exact ⟨223,rfl,by decide,h3,rfl⟩
  ·have:=S_inj.mp (p4.symm.trans e);subst this;exact ⟨64262,rfl,by decide,h4,rfl⟩
theorem ones: ∀l:List Nat,((l.map fun c=>[c]).map (·.length)).sum=l.length
 |[]=>rfl
 |x::r=>by
  have:=ones r
  simp only[List.map_cons,List.sum_cons,List.length_cons] at this⊢
  rw[this];simp;lia
theorem flat1: ∀l:List Nat,(l.map fun c=>[c]).flatten=l
 |[]=>rfl
 |x::r=>by rw[List.map_cons,List.flatten_cons,flat1 r];rfl
theorem take_next {w:List Nat} {p:Nat} (h:p<w.length):w.take (p+1)=w.take p++[w[p]]:=by
 rw[List.take_add_one,List.getElem?_eq_getElem h];rfl
theorem take_two {w:List Nat} {p:Nat}:w.take (p+2)=w.take p++(w.drop p).take 2:=List.take_add ..
theorem hidden_ok:hiddenL.all (fun c=>decide (c≤1114111))=true:=by decide+kernel
theorem great_ok:greatL.all (fun g=>L4.all fun c=>decide (g+c-97≤1114111)&&decide (97≤g+c))=true:=by decide+kernel
inductive T_typed (ds:List V) (Q:V→St→Prop) (σ:St):Prop
 |mk (D:Addr) (draw:Int) (w:List Nat) (h1:ds=[.lst D,.int draw]) (h2:σ.lists D=some (w.map chV)) (h3:w.length=8) (h4:(∀c∈w,c∈L4)) (h5: ∀σ' tx,Ext σ σ'→prepF tx=w→tx.length≤16→Q (.str (S tx)) σ'):T_typed ds Q σ
inductive TInv (w:List Nat) (D Hd Gr J:Addr) (o:Obj) (σ:St) (n:Nat) (τ:St):Prop
 |mk (p:Nat) (dr:Int) (tx:List Nat) (h1:τ.vars 0=some (.lst D)) (h2:τ.vars 1=some (.int dr)) (h3:τ.vars 2=some (.lst Hd)) (h4:τ.vars 3=some (.lst Gr)) (h5:τ.vars 4=some (.fn J)) (h6:τ.vars 5=some (.str (S tx))) (h7:τ.vars 6=some (.int (p:Int))) (h8:τ.lists D=some (w.map chV)) (h9:τ.lists Hd=some (nints hiddenL)) (h10:τ.lists Gr=some (nints greatL)) (h11:τ.ro J=some o) (h12:LE σ τ) (h13:p≤8) (h14:prepF tx=w.take p) (h15:tx.length≤2*p) (h16:n=8-p):TInv w D Hd Gr J o σ n τ
theorem con_typed (W:Wk C) (ds:List V) (Q:V→St→Prop) (σ:St) (t:T_typed ds Q σ):fnCon 2 (W_law_typed (k:=k) W).1 ds Q σ:=by
 obtain ⟨D,draw,w,rfl,lD,hw,hL,q⟩:=t
 refine fn_con rfl ?_
 unfold W_law_typed
 dsimp only
 have hz:10000≤sizeLine:=Nat.le_of_ble_eq_true rfl
 generalize hTW:(ptSeq (ptWhile _ _) _:PT Fl)=TW
 repeat walk_at "mine"
 refine ⟨Nat.le_of_ble_eq_true rfl,fun H0 hH0=>?_⟩
 replace hH0:σ.lists H0=none:=hH0
 repeat walk_at "mine"
 refine ⟨65024,65040,1,.two,⟨by decide,by decide,by decide,by decide,by decide,by decide⟩,by decide,fun H1 hH1=>?_⟩
 obtain ⟨hH10,hH1⟩:=fresh hH1
 replace hH1:σ.lists H1=none:=hH1
 refine .addL ((setL_other (Ne.symm hH10)).trans setL_get) setL_get (by decide) fun Hd hHd=>?_
 obtain ⟨hd1,hHd⟩:=fresh hHd
 obtain ⟨hd0,hHd⟩:=fresh hHd
 replace hHd:σ.lists Hd=none:=hHd
 repeat walk_at "mine"
 refine ⟨Nat.le_of_ble_eq_true rfl,fun Gr hGr=>?_⟩
 obtain ⟨hg2,hGr⟩:=fresh hGr
 obtain ⟨hg1,hGr⟩:=fresh hGr
 obtain ⟨hg0,hGr⟩:=fresh hGr
 replace hGr:σ.lists Gr=none:=hGr
 repeat walk_at "mine"
 refine p_dict ?_
 intro J o hJ1 hJ2 hJ3 hJ
 repeat walk_at "mine"
 have hhid:([V.int 173,V.int 847,V.int 6150,V.int 6155,V.int 6156,V.int 6157,V.int 8203,V.int 8204,V.int 8205,V.int 8288,V.int 65279]++rangeVals 65024 1 (Builtin.Range.rangeSize 65024 65040 1).toNat)=nints hiddenL:=by rfl
 have hgre:[V.int 119808,V.int 119860,V.int 119912,V.int 120016,V.int 120172,V.int 120224,V.int 120276,V.int 120328,V.int 120380,V.int 120432]=nints greatL:=rfl
 rw[str_nil,hhid,hgre,←hTW]
 have dne: ∀{E:Addr},σ.lists E=none→D≠E:=fun h z=>by rw[←z,lD] at h;cases h
 refine p_seqK (p_while (TInv w D Hd Gr J o σ) 8 ?_ ?_)
 ·refine ⟨0,draw,[],rfl,rfl,rfl,rfl,rfl,rfl,rfl,?_,?_,?_,if_pos rfl,?_,by decide,rfl,by decide,rfl⟩
  ·exact (setL_other (dne hGr)).trans ((setL_other (dne hHd)).trans ((setL_other (dne hH1)).trans ((setL_other (dne hH0)).trans lD)))
  ·exact (setL_other (Ne.symm hg2)).trans setL_get
  ·exact setL_get
  ·exact (((LE.refl.setL hH0).setL hH1).setL hHd).setL hGr
 ·rintro n τ ⟨p,dr,tx,v0,v1,v2,v3,v4,v5,v6,kD,kH,kG,kJ,le,hp,hpr,htl,rfl⟩
  repeat walk_at "mine"
  by_cases c8:p<8
  ·refine c_ltT (by walk_at "a") ?_
   have hpw:p<w.length:=by walk_at "a"
   have hwp:=take_next hpw
   have hin:w[p]∈L4:=hL _ (List.getElem_mem hpw)
   have hget:(w.map chV)[p]? =some (chV w[p]):=by rw[List.getElem?_map,List.getElem?_eq_getElem hpw];rfl
   generalize hch:w[p]=ch at*
   obtain ⟨u1,u2,u3,u4⟩:=mc5' hin
   repeat walk_at "mine"
   refine it_lst (i:=p) kD hget (by walk_at "a") ?_
   unfold chV
   repeat walk_at "mine"
   refine o_addE (c:=((p+2:Nat):Int)) (by walk_at "a") ?_
   refine sl_lst (p:=p) (q:=p+2) kD (by rw[List.length_map];lia) (by rw[List.length_map];lia) fun E hE=>?_
   replace hE:τ.lists E=none:=hE
   have hE0:=le.none hE
   have hpair:(List.drop p (w.map chV)).take (p+2-p)=(((w.drop p).take 2).map fun c=>S [c]).map V.str:=by
    rw[Nat.add_sub_cancel_left,←List.map_drop,←List.map_take,List.map_map];rfl
   have hpr2:((w.drop p).take 2).length≤2:=by rw[List.length_take];lia
   have htt:=take_two (w:=w) (p:=p)
   generalize hprr:(w.drop p).take 2=pr at*
   repeat walk_at "mine"
   rw[str_nil,hpair]
   have hmm:(pr.map fun c=>S [c])=(pr.map fun c=>[c]).map S:=by rw[List.map_map];rfl
   refine m_join (ls:=pr.map fun c=>[c]) (setL_get.trans (by rw[hmm])) ?_ ?_
   ·rw[ones];lia
   rw[flat1]
   obtain ⟨w1,w2⟩:=fmod_lt (x:=dr) (s:=40) (by decide)
   generalize (dr.fmod ((40:Nat):Int)).toNat=way at*
   repeat walk_at "mine"
   refine o_modE w2 (by decide) ?_
   repeat walk_at "mine"
   refine .div (by decide) (by decide) ?_
   have lDE:(setL τ E ((pr.map fun c=>S [c]).map V.str)).lists D=some (w.map chV):=(setL_other (dne hE0)).trans kD
   have lHE:(setL τ E ((pr.map fun c=>S [c]).map V.str)).lists Hd=some (nints hiddenL):=(setL_other (fun z=>by rw[←z,kH] at hE;cases hE)).trans kH
   have lGE:(setL τ E ((pr.map fun c=>S [c]).map V.str)).lists Gr=some (nints greatL):=(setL_other (fun z=>by rw[←z,kG] at hE;cases hE)).trans kG
   have leE:LE σ (setL τ E ((pr.map fun c=>S [c]).map V.str)):=le.setL hE0
   have fin: ∀(QF:Fl→St→Prop) (τ':St) (p':Nat) (tx':List Nat) (dr':Int),(∀τ,(∃m,m<8-p∧TInv w D Hd Gr J o σ m τ)→QF .next τ)→τ'.vars 0=some (.lst D)→τ'.vars 1=some (.int dr')→τ'.vars 2=some (.lst Hd)→τ'.vars 3=some (.lst Gr)→τ'.vars 4=some (.fn J)→τ'.vars 5=some (.str (S tx'))→τ'.vars 6=some (.int (p':Int))→
    τ'.lists=(setL τ E ((pr.map fun c=>S [c]).map V.str)).lists→τ'.ro=τ.ro→p≤p'→p'<8→prepF tx'=w.take (p'+1)→tx'.length≤2*(p'+1)→
    ptSeq (ptAug 6 Operator.Add (ptInt 1)) ptNil QF τ':=by
    intro QF τ' p' tx' dr' hQ a0 a1 a2 a3 a4 a5 a6 al ar hpp hp8 hx hxl
    repeat walk_at "mine"
    refine i_add (c:=((p'+1:Nat):Int)) (by walk_at "a") ?_
    repeat walk_at "mine"
    refine hQ _ ⟨8-(p'+1),by walk_at "a",p'+1,dr',tx',a0,a1,a2,a3,a4,a5,rfl,?_,?_,?_,?_,?_,by walk_at "a",hx,hxl,rfl⟩
    ·show τ'.lists D=_;rw[al];exact lDE
    ·show τ'.lists Hd=_;rw[al];exact lHE
    ·show τ'.lists Gr=_;rw[al];exact lGE
    ·show τ'.ro J=_;rw[ar];exact kJ
    ·intro b xs e
     show τ'.lists b=_;rw[al];exact leE b xs e
   generalize hTF:(ptSeq (ptAug 6 Operator.Add (ptInt 1)) ptNil:PT Fl)=TF at*
   have st6: ∀(QF:Fl→St→Prop) (τ':St),τ'.vars 6=some (.int (p:Int))→QF .next (setV τ' 6 (.int ((p+1:Nat):Int)))→TF QF τ':=by
    intro QF τ' e h
    rw[←hTF]
    repeat walk_at "mine"
    refine i_add (c:=((p+1:Nat):Int)) (by walk_at "a") ?_
    repeat walk_at "mine"
    exact h
   repeat walk_at "mine"
   by_cases b1:way<27
   ·refine c_ltT (by walk_at "a") ?_
    obtain ⟨hc,hh1,hh2⟩: ∃hc,hiddenL[way]? =some hc∧hc∈hiddenL:=by
     have hl:way<hiddenL.length:=b1
     exact ⟨hiddenL[way],List.getElem?_eq_getElem hl,List.getElem_mem hl⟩
    have hcb:hc≤1114111:=of_decide_eq_true (List.all_eq_true.mp hidden_ok hc hh2)
    repeat walk_at "mine"
    refine it_lst (i:=way) (y:= .int (hc:Int)) lHE (by unfold nints;rw[List.getElem?_map,hh1];rfl) (by walk_at "a") ?_
    repeat walk_at "mine"
    refine bi_chr hcb ?_
    refine o_addS (by walk_at "s") ?_
    refine i_addS (by simp;lia) ?_
    repeat walk_at "mine"
    refine fin _ _ p (tx++([ch]++[hc])) _ (fun _ h=>h) v0 rfl v2 v3 v4 rfl v6 rfl rfl (Nat.le_refl _) c8 ?_ (by simp;lia)
    rw[prep_app,prep_app,prep_one,prep_one,mc1' hin,mc2' hh2,hpr,hwp,List.append_nil]
   ·refine c_ltF (by walk_at "a") ?_
    repeat walk_at "mine"
    by_cases b2:way<37
    ·refine c_ltT (by walk_at "a") ?_
     obtain ⟨g,hh1,hh2⟩: ∃g,greatL[way-27]? =some g∧g∈greatL:=by
      have hl:way-27<greatL.length:=by
        have:greatL.length=10:=rfl
        lia
      exact ⟨greatL[way-27],List.getElem?_eq_getElem hl,List.getElem_mem hl⟩
     have hcb:=List.all_eq_true.mp (List.all_eq_true.mp great_ok g hh2) ch hin
     simp only[Bool.and_eq_true,decide_eq_true_eq] at hcb
     repeat walk_at "mine"
     refine o_subE (c:=((way-27:Nat):Int)) (by walk_at "a") ?_
     refine it_lst (i:=way-27) (y:= .int (g:Int)) lGE (by unfold nints;rw[List.getElem?_map,hh1];rfl) (by walk_at "a") ?_
     repeat walk_at "mine"
     refine bi_ord ?_
     refine o_addE rfl ?_
     repeat walk_at "mine"
     refine o_subE (c:=((g+ch-97:Nat):Int)) (by walk_at "a") ?_
     repeat walk_at "mine"
     refine bi_chr hcb.1 ?_
     refine i_addS (by simp;lia) ?_
     repeat walk_at "mine"
     refine fin _ _ p (tx++[g+ch-97]) _ (fun _ h=>h) v0 rfl v2 v3 v4 rfl v6 rfl rfl (Nat.le_refl _) c8 ?_ (by simp;lia)
     rw[prep_app,prep_one,mc3' hh2 hin,hpr,hwp]
    ·refine c_ltF (by walk_at "a") ?_
     repeat walk_at "mine"
     by_cases b3:way=37
     ·refine c_gtF (by walk_at "a") ?_
      repeat walk_at "mine"
      refine m_upper (by rw[S_len];simp) ?_
      rw[u2]
      refine i_addS (by simp;lia) ?_
      repeat walk_at "mine"
      refine fin _ _ p (tx++[ch-32]) _ (fun _ h=>h) v0 rfl v2 v3 v4 rfl v6 rfl rfl (Nat.le_refl _) c8 ?_ (by simp;lia)
      rw[prep_app,prep_one,u1,hpr,hwp]
     ·refine c_gtT (by walk_at "a") ?_
      repeat walk_at "mine"
      refine p_inJ ?_
      repeat walk_at "mine"
      refine .mk (S pr) J o kJ hJ hJ3 ?_
      cases hlk:lookJ joinedL (S pr) with
      |some i=>
       obtain ⟨n,rfl,hn1,hn2,hn3⟩:=joined_some hlk
       have hp2:p+1<8:=by
        rw[←hprr,List.length_take,List.length_drop] at hn3;lia
       show if true=true then _ else _
       repeat walk_at "mine"
       refine p_itJ ?_
       repeat walk_at "mine"
       refine .mk (S pr) J o kJ hJ hJ3 ⟨_,hlk,?_⟩
       repeat walk_at "mine"
       refine bi_chr hn1 ?_
       refine i_addS (by simp;lia) ?_
       repeat walk_at "mine"
       refine st6 _ _ v6 ?_
       repeat walk_at "mine"
       refine fin _ _ (p+1) (tx++[n]) _ (fun _ h=>h) v0 rfl v2 v3 v4 rfl rfl rfl rfl (by walk_at "a") hp2 ?_ (by simp;lia)
       rw[prep_app,prep_one,hn2,hpr,htt]
      |none=>
       show if false=true then _ else _
       repeat walk_at "mine"
       refine m_upper (by rw[S_len];simp) ?_
       rw[u2]
       refine i_addS (by simp;lia) ?_
       repeat walk_at "mine"
       refine fin _ _ p (tx++[ch-32]) _ (fun _ h=>h) v0 rfl v2 v3 v4 rfl v6 rfl rfl (Nat.le_refl _) c8 ?_ (by simp;lia)
       rw[prep_app,prep_one,u1,hpr,hwp]
  ·refine c_ltF (by walk_at "a") ?_
   obtain rfl:p=8:=by walk_at "a"
   repeat walk_at "mine"
   refine q _ tx le.ext (by rw[hpr,←hw,List.take_length]) (by walk_at "a")
theorem typed_sound (W:Wk C):FnSound C 1 W.a__law_typed T_typed:=
 FnSound.weak (fnAt_sound (m:=2) W W.f__law_typed (W_law_typed (k:=0) W).2 (fun pm cd doc vs h=>by
    obtain ⟨a,b,rfl⟩:=bind2 h
    rfl) (by kernel_rfl)) fun ds Q σ t=>con_typed W ds Q σ t
end
end
section
open PySem PySem.Spec PySem.Calls PyProof.Rows PySem.W
section
variable {C:Ctx} {k:Nat}
noncomputable def sV (u:List Nat):V:= .str (S u)
noncomputable def rideU:Nat→List Nat
 |1=>[92,34]
 |2=>[92,92]
 |3=>[92,102]
 |_=>[]
noncomputable def unit1 (u:List Nat):List (List Nat):=if u=[] then [] else [u]
noncomputable def sg (seen:List Nat) (l:Nat):Nat:=if l∈seen then l else l-32
noncomputable def tok (x y:Nat):List Nat→List Nat→List Nat→Bool→List (List Nat)
 |_,[],_,sh=>if sh=true then [[34]] else []
 |seen,l::w,rs,sh=>(if (decide (l∈[x,y])==sh)=true then [[34]] else [])++unit1 (rideU (rs.headD 0))++[[sg seen l]]++tok x y (seen++[l]) w rs.tail (!decide (l∈[x,y]))
theorem tok_nil (x y:Nat) (seen rs:List Nat) (sh:Bool):tok x y seen [] rs sh=if sh=true then [[34]] else []:=rfl
theorem tok_cons (x y l:Nat) (seen w rs:List Nat) (sh:Bool):tok x y seen (l::w) rs sh=(if (decide (l∈[x,y])==sh)=true then [[34]] else [])++unit1 (rideU (rs.headD 0))++[[sg seen l]]++tok x y (seen++[l]) w rs.tail (!decide (l∈[x,y])):=rfl
noncomputable def outU:List (List Nat)→Bool→List (List Nat)
 |[],_=>[]
 |u::us,sh=>if u=[34] then outU us (!sh) else if sh=true then outU us sh else u::outU us sh
noncomputable def shA:List (List Nat)→Bool→Bool
 |[],sh=>sh
 |u::us,sh=>shA us (if u=[34] then !sh else sh)
theorem outU_cons (u:List Nat) (us:List (List Nat)) (sh:Bool):outU (u::us) sh=if u=[34] then outU us (!sh) else if sh=true then outU us sh else u::outU us sh:=rfl
theorem shA_cons (u:List Nat) (us:List (List Nat)) (sh:Bool):shA (u::us) sh=shA us (if u=[34] then !sh else sh):=rfl
theorem outU_app: ∀(a b:List (List Nat)) (sh:Bool),outU (a++b) sh=outU a sh++outU b (shA a sh)
 |[],b,sh=>rfl
 |u::a,b,sh=>by
  rw[List.cons_append,outU_cons,outU_cons,shA_cons]
  by_cases c:u=[34]
  ·rw[if_pos c,if_pos c,if_pos c];exact outU_app a b (!sh)
  ·rw[if_neg c,if_neg c,if_neg c]
   cases sh
   ·rw[if_neg (by decide),if_neg (by decide),outU_app a b false,List.cons_append]
   ·rw[if_pos rfl,if_pos rfl,outU_app a b true]
theorem shA_app: ∀(a b:List (List Nat)) (sh:Bool),shA (a++b) sh=shA b (shA a sh)
 |[],b,sh=>rfl
 |u::a,b,sh=>by
  rw[List.cons_append,shA_cons,shA_cons]
  exact shA_app a b _
theorem lits_line:Str.ofString "\"" =S [34]∧Str.ofString "\\\"" =S [92,34]∧Str.ofString "\\\\" =S [92,92]∧Str.ofString "\\f" =S [92,102]∧Str.ofString "\\" =S [92]:=⟨by kernel_rfl,by kernel_rfl,by kernel_rfl,by kernel_rfl,by kernel_rfl⟩
theorem c_in {c:Nat} {l:List Nat} {QB:Bool→St→Prop} {σ:St} (q:QB (decide (c∈l)) σ):cmpPT .In (.str (S [c])) (.str (S l)) QB σ:=by
 refine .inS (x:=S l) (y:=S [c]) ?_
 show QB (!(Builtin.Str.occurrences (S l) ⟨#[c]⟩ 0 (S l).length 1).isEmpty) σ
 rw[StrLaws.found_one]
 exact q
theorem c_eqB {a b:Bool} {QB:Bool→St→Prop} {σ:St} (q:QB (a==b) σ):cmpPT .Eq (.bool a) (.bool b) QB σ:= .eqB q
theorem bnot_of: ∀a b:Bool,¬(a==b)=true→b= !a:=by decide
noncomputable def rides (draw:Int):List Nat:=(List.range 8).map fun p=>((draw.fdiv (4^p)).fmod ((4:Nat):Int)).toNat
inductive T_line (ds:List V) (Q:V→St→Prop) (σ:St):Prop
 |mk (w:List Nat) (st x y:Nat) (draw:Int) (h1:ds=[.str (S (w++[st])),.str (S [x,y]),.int draw]) (h2:w.length=8) (h3:(∀c∈w,c∈L4)) (h4: ∀σ' D rs,Ext σ σ'→σ.lists D=none→σ'.lists D=some ((outU (tok x y [] w rs false) false++[[34],[st],[92]]).map sV)→Q (.tup [.str (S ((tok x y [] w rs false).flatten++[34,st,92])),.lst D]) σ'):T_line ds Q σ
noncomputable def fl (K:List (List Nat)):List (List Nat):=K.filter (· ≠[])
theorem fl_nil (K:List (List Nat)):fl (K++[[]])=fl K:=(List.filter_append ..).trans (List.append_nil _)
theorem fl_one {u:List Nat} (h:u≠[]) (K:List (List Nat)):fl (K++[u])=fl K++[u]:=(List.filter_append ..).trans (congrArg (fl K++ ·) (List.filter_cons_of_pos (decide_eq_true h)))
theorem fl_unit (u:List Nat) (K:List (List Nat)):fl (K++[u])=fl K++unit1 u:=by
 unfold unit1
 by_cases h:u=[]
 ·rw[if_pos h,h,fl_nil,List.append_nil]
 ·rw[if_neg h,fl_one h]
noncomputable def nx (w:List Nat) (p l rd:Nat):List (List Nat):=unit1 (rideU rd)++[[sg (w.take p) l]]
theorem nx_flat (T:List (List Nat)) (w:List Nat) (p l rd:Nat):(T++nx w p l rd).flatten=T.flatten++(rideU rd++[sg (w.take p) l]):=by
 rw[List.flatten_append]
 refine congrArg (T.flatten++ ·) ?_
 unfold nx unit1
 split
 ·next h=>rw[h];rfl
 ·exact List.flatten_cons
theorem ride_ok: ∀rd,rd<4→(([sV [],sV [92,34],sV [92,92],sV [92,102]])[rd]? =some (sV (rideU rd))∧(rideU rd).length≤2∧rideU rd≠[34])
 |0,_=>⟨rfl,by decide,by decide⟩
 |1,_=>⟨rfl,by decide,by decide⟩
 |2,_=>⟨rfl,by decide,by decide⟩
 |3,_=>⟨rfl,by decide,by decide⟩
theorem sg_ne {l:Nat} (h:l∈L4) (seen:List Nat):[sg seen l]≠[34]:=by
 have h2:=of_decide_eq_true (List.all_eq_true.mp (show L4.all (fun l=>decide (l≠34∧l-32≠34))=true by decide) l h)
 unfold sg
 split
 ·exact fun z=>h2.1 (List.cons.inj z).1
 ·exact fun z=>h2.2 (List.cons.inj z).1
theorem ride_at (draw:Int) {p:Nat} (hp:p<8): ∃rd,(rides draw)[p]? =some rd∧(draw.fdiv (4^p)).fmod 4=(rd:Int)∧rd<4:=by
 have h:=fmod_lt (x:=draw.fdiv (4^p)) (s:=4) (by decide)
 exact ⟨_,by unfold rides;rw[List.getElem?_map,List.getElem?_range hp];rfl,h.2,h.1⟩
inductive LnP (w:List Nat) (x y:Nat) (rs:List Nat) (p:Nat) (T K:List (List Nat)) (sh:Bool):Prop
 |mk (hK:K.length≤2*p) (hF:fl K=outU T false) (hs:shA T false=sh) (hT:T.flatten.length≤4*p) (e:T++tok x y (w.take p) (w.drop p) (rs.drop p) sh=tok x y [] w rs false):LnP w x y rs p T K sh
inductive LnQ (w:List Nat) (x y:Nat) (rs:List Nat) (p l rd:Nat) (T K:List (List Nat)) (sh:Bool):Prop
 |mk (hK:K.length≤2*p) (hF:fl K=outU T false) (hs:shA T false=sh) (hT:T.flatten.length≤4*p+1) (e:T++nx w p l rd++tok x y (w.take (p+1)) (w.drop (p+1)) (rs.drop (p+1)) sh=tok x y [] w rs false):LnQ w x y rs p l rd T K sh
theorem LnP.step {w rs:List Nat} {x y p l rd:Nat} {T K:List (List Nat)} {sh:Bool} (h:LnP w x y rs p T K sh) (hl:w[p]? =some l) (hr:rs[p]? =some rd):T++((if (decide (l∈[x,y])==sh)=true then [[34]] else [])++unit1 (rideU rd)++[[sg (w.take p) l]]++tok x y (w.take (p+1)) (w.drop (p+1)) (rs.drop (p+1)) (!decide (l∈[x,y])))=tok x y [] w rs false:=by
 refine h.casesOn fun _ _ _ _ e=>?_
 have h1:=List.getElem?_eq_some_iff.mp hl
 have h2:=List.getElem?_eq_some_iff.mp hr
 refine h1.elim fun hp h1=>h2.elim fun hq h2=>?_
 rw[List.drop_eq_getElem_cons hp,List.drop_eq_getElem_cons hq,h1,h2,tok_cons,List.headD_cons,List.tail_cons,←h1,←take_next hp,h1] at e
 exact e
theorem LnP.quo {w rs:List Nat} {x y p l rd:Nat} {T K:List (List Nat)} {sh:Bool} (h:LnP w x y rs p T K sh) (hl:w[p]? =some l) (hr:rs[p]? =some rd) (c:(decide (l∈[x,y])==sh)=true):LnQ w x y rs p l rd (T++[[34]]) K (!decide (l∈[x,y])):=by
 have hs:=h.step hl hr
 rw[if_pos c] at hs
 refine h.casesOn fun hK hF hS hT _=>⟨hK,?_,?_,?_,?_⟩
 ·rw[outU_app,hF];exact (List.append_nil _).symm
 ·rw[shA_app,hS,eq_of_beq c];rfl
 ·rw[List.flatten_append,List.length_append];exact Nat.add_le_add_right hT 1
 ·rw[←hs];unfold nx;rw[List.append_assoc,List.append_assoc,List.append_assoc,List.append_assoc,List.append_assoc]
theorem LnP.unq {w rs:List Nat} {x y p l rd:Nat} {T K:List (List Nat)} {sh:Bool} (h:LnP w x y rs p T K sh) (hl:w[p]? =some l) (hr:rs[p]? =some rd) (c: ¬(decide (l∈[x,y])==sh)=true):LnQ w x y rs p l rd T K (!decide (l∈[x,y])):=by
 have hs:=h.step hl hr
 rw[if_neg c] at hs
 refine h.casesOn fun hK hF hS hT _=>⟨hK,hF,hS.trans (bnot_of _ _ c),Nat.le_succ_of_le hT,?_⟩
 rw[←hs];unfold nx;rw[List.append_assoc,List.nil_append,List.append_assoc]
theorem LnP.bnd {w rs:List Nat} {x y p:Nat} {T K:List (List Nat)} {sh:Bool} (h:LnP w x y rs p T K sh) (hp:p<8):T.flatten.length+1≤16777216:=h.casesOn fun _ _ _ h _=>Nat.le_trans (Nat.succ_le_succ (Nat.le_trans h (Nat.mul_le_mul_left 4 (Nat.le_of_lt hp)))) (by decide)
theorem LnQ.bnd {w rs:List Nat} {x y p l rd:Nat} {T K:List (List Nat)} {sh:Bool} (h:LnQ w x y rs p l rd T K sh) (hp:p<8):T.flatten.length+3≤16777216∧K.length+2≤sizeLine:=h.casesOn fun hK _ _ hT _=>⟨Nat.le_trans (Nat.add_le_add_right (Nat.le_trans hT (Nat.succ_le_succ (Nat.mul_le_mul_left 4 (Nat.le_of_lt hp)))) 3) (by decide),Nat.le_trans (Nat.add_le_add_right (Nat.le_trans hK (Nat.mul_le_mul_left 2 (Nat.le_of_lt hp))) 2) (Nat.le_of_ble_eq_true rfl)⟩
theorem outU_nx {w:List Nat} {p l rd:Nat} (h1:rideU rd≠[34]) (h2:[sg (w.take p) l]≠[34]): ∀sh,outU (nx w p l rd) sh=if sh=true then [] else nx w p l rd:=by
 unfold nx unit1
 intro sh
 by_cases c:rideU rd=[]
 ·rw[if_pos c,List.nil_append,outU_cons,if_neg h2];cases sh<;>rfl
 ·rw[if_neg c,List.singleton_append,outU_cons,if_neg h1,outU_cons,if_neg h2];cases sh<;>rfl
theorem shA_nx {w:List Nat} {p l rd:Nat} (h1:rideU rd≠[34]) (h2:[sg (w.take p) l]≠[34]) (sh:Bool):shA (nx w p l rd) sh=sh:=by
 unfold nx unit1
 split
 ·rw[List.nil_append,shA_cons,if_neg h2];rfl
 ·rw[List.singleton_append,shA_cons,shA_cons,if_neg h1,if_neg h2];rfl
theorem LnQ.next {w rs:List Nat} {x y p l rd:Nat} {T K:List (List Nat)} {sh:Bool} (h:LnQ w x y rs p l rd T K sh) (hl:l∈L4) (hr:rd<4):LnP w x y rs (p+1) (T++nx w p l rd) (if sh=true then K else K++[rideU rd,[sg (w.take p) l]]) sh:=by
 have r:=ride_ok rd hr
 have s:=sg_ne hl (w.take p)
 refine h.casesOn fun hK hF hS hT e=>⟨?_,?_,?_,?_,e⟩
 ·split
  ·exact Nat.le_trans hK (Nat.mul_le_mul_left 2 (Nat.le_succ p))
  ·rw[List.length_append];exact Nat.add_le_add_right hK 2
 ·rw[outU_app,hS,←hF,outU_nx r.2.2 s]
  cases sh
  ·rw[if_neg (by decide),if_neg (by decide),List.append_cons,fl_one (List.cons_ne_nil _ _),fl_unit,List.append_assoc];rfl
  ·rw[if_pos rfl,if_pos rfl,List.append_nil]
 ·rw[shA_app,hS,shA_nx r.2.2 s]
 ·rw[nx_flat,List.length_append,List.length_append];show _≤4*p+1+(2+1);exact Nat.add_le_add hT (Nat.add_le_add_right r.2.1 1)
theorem LnP.fin {w:List Nat} {x y:Nat} {draw:Int} {T K:List (List Nat)} {sh:Bool} (hw:w.length=8) (h:LnP w x y (rides draw) 8 T K sh):And5 (T++(if sh=true then [[34]] else [])=tok x y [] w (rides draw) false) (fl K=outU (tok x y [] w (rides draw) false) false) ((tok x y [] w (rides draw) false).flatten.length≤33) (T.flatten.length≤32) (K.length≤16):=by
 refine h.casesOn fun hK hF hS hT e=>?_
 rw[show w.drop 8=[] from hw▸List.drop_length,tok_nil] at e
 refine ⟨e,?_,?_,hT,hK⟩
 ·rw[←e,outU_app,←hF,hS]
  cases sh<;>exact (List.append_nil _).symm
 ·rw[←e,List.flatten_append,List.length_append];show _≤32+1;exact Nat.add_le_add hT (by cases sh<;>decide)
theorem lk_ne {τ:St} {D K:Addr} {xs:List V} (hD:τ.lists D=none) (h:τ.lists K=some xs):K≠D:=fun z=>by rw[z,hD] at h;cases h
theorem p4_small {p:Nat} (h:p<8):((4:Int)^p).natAbs<1073741824:=by
 rw[Int.natAbs_pow]
 exact Nat.lt_of_le_of_lt (Nat.pow_le_pow_right (by decide) (Nat.le_of_lt h)) (by decide)
inductive LnB (w:List Nat) (st x y:Nat) (draw:Int) (σ:St) (Kp:Addr) (F:List Nat) (K:List (List Nat)) (sh:Bool) (τ:St):Prop
 |mk (v0:τ.vars 0=some (.str (S (w++[st])))) (v1:τ.vars 1=some (.str (S [x,y]))) (v2:τ.vars 2=some (.int draw)) (v3:τ.vars 3=some (.str (S F))) (v4:τ.vars 4=some (.lst Kp)) (v5:τ.vars 5=some (.bool sh)) (kK:τ.lists Kp=some (K.map sV)) (le:LE σ τ):LnB w st x y draw σ Kp F K sh τ
inductive LInv (w:List Nat) (st x y:Nat) (draw:Int) (σ:St) (Kp:Addr) (p:Nat) (τ:St):Prop
 |mk (T K:List (List Nat)) (F:List Nat) (sh:Bool) (hF:T.flatten=F) (b:LnB w st x y draw σ Kp F K sh τ) (h:LnP w x y (rides draw) p T K sh):LInv w st x y draw σ Kp p τ
inductive LinC (Kp:Addr) (K:List (List Nat)) (σ:St) (D:Addr) (i:Nat) (ys:List V) (σc:St):Prop
 |mk (h1:σc.lists D=some ys) (h2:σc.lists Kp=some (K.map sV)) (h3:ys=(fl (K.take i)).map sV) (h4:LE σ σc):LinC Kp K σ D i ys σc
theorem fl_len (K:List (List Nat)) (i:Nat):((fl (K.take i)).map sV).length≤i:=by
 rw[List.length_map];exact Nat.le_trans (List.length_filter_le ..) (List.length_take_le ..)
theorem len1 {a:List Nat} {n c:Nat} (h:a.length≤n):(a++[c]).length≤n+1:=Nat.le_trans (Nat.le_of_eq List.length_append) (Nat.add_le_add_right h 1)
theorem map_get {K:List (List Nat)} {i:Nat} {v:V} (h:(K.map sV)[i]? =some v): ∃u,v= .str (S u)∧K.take (i+1)=K.take i++[u]∧i<K.length:=by
 rw[List.getElem?_map] at h
 cases e:K[i]? with
 |none=>rw[e] at h;cases h
 |some u=>
  rw[e] at h
  cases h
  exact ⟨u,rfl,by rw[List.take_add_one,e];rfl,(List.getElem?_eq_some_iff.mp e).1⟩
theorem con_line (W:Wk C) (ds:List V) (Q:V→St→Prop) (σ:St) (t:T_line ds Q σ):fnCon 3 (W_law_line (k:=k) W).1 ds Q σ:=by
 refine t.casesOn fun w st x y draw hds hw hL q=>?_
 rw[hds]
 clear t hds ds
 refine fn_con rfl ?_
 unfold W_law_line
 dsimp only
 have hw9:(w++[st]).length=9:=List.length_append.trans (congrArg (· +1) hw)
 have hwz:(w++[st]).length≤16777216:=Nat.le_trans (Nat.le_of_eq hw9) (Nat.le_of_ble_eq_true rfl)
 rw[lits_line.1,lits_line.2.1,lits_line.2.2.1,lits_line.2.2.2.1,lits_line.2.2.2.2,str_nil]
 generalize hT:(ptSeq (ptIf (ptT (ptVar 5)) _ _) _:PT Fl)=T
 repeat walk_at "mine"
 refine ⟨Nat.le_of_ble_eq_true rfl,fun Kp hK=>?_⟩
 replace hK:σ.lists Kp=none:=hK
 repeat walk_at "mine"
 refine p_rg1 (n:=8) rfl (by decide) ?_
 refine ForOk.mk (LInv w st x y draw σ Kp) ?_ (fun _ _ _ _=>trivial) ?_ ?_
 ·exact ⟨[],[],[],false,rfl,⟨rfl,rfl,rfl,rfl,rfl,rfl,setL_get,LE.refl.setL hK⟩,⟨Nat.le_refl _,rfl,rfl,Nat.le_refl _,rfl⟩⟩
 ·clear q hT
  intro p v τ hx I
  have hp:=range_int hx
  rw[hp.2]
  replace hp:=hp.1
  clear hx
  refine I.casesOn fun T0 K F sh hF b pp=>?_
  clear I
  subst hF
  refine Exists.elim (⟨_,List.getElem?_eq_getElem (hw▸hp)⟩: ∃l,w[p]? =some l) fun l hl=>?_
  refine Exists.elim (ride_at draw hp) fun rd hr=>?_
  have hin:l∈L4:=hL _ (List.mem_of_getElem? hl)
  have hpw:p≤w.length:=Nat.le_trans (Nat.le_of_lt hp) (Nat.le_of_eq hw.symm)
  have hpl:p≤(w++[st]).length:=Nat.le_trans hpw (by rw[List.length_append];exact Nat.le_add_right _ _)
  have hget:(w++[st])[p]? =some l:=(List.getElem?_append_left (hw▸hp)).trans hl
  refine b.casesOn fun v0 v1 v2 v3 v4 v5 kK le=>?_
  clear b hL hw hw9
  repeat walk_at "mine"
  refine it_str hget hwz ?_
  repeat walk_at "mine"
  refine c_in ?_
  repeat walk_at "mine"
  refine c_eqB ?_
  generalize hTT:(ptSeq (ptAsgs [atName 8] _) _:PT Fl)=TT
  have go: ∀(QF:Fl→St→Prop) (T1:List (List Nat)) (τ':St),(∀τ,LInv w st x y draw σ Kp (p+1) τ→QF .next τ)→LnB w st x y draw σ Kp T1.flatten K (!decide (l∈[x,y])) τ'→τ'.vars 6=some (.int (p:Int))→τ'.vars 7=some (.str (S [l]))→LnQ w x y (rides draw) p l rd T1 K (!decide (l∈[x,y]))→TT QF τ':=by
   clear pp v0 v1 v2 v3 v4 v5 kK le hget
   intro QF T1 τ' hQ b v6 v7 lq
   refine b.casesOn fun v0 v1 v2 v3 v4 v5 kK le=>?_
   have hb:=lq.bnd hp
   replace lq:=lq.next hin hr.2.2
   have hro:=ride_ok rd hr.2.2
   clear b
   generalize (!decide (l∈[x,y]))=ins at v5 lq
   rw[←hTT]
   repeat walk_at "mine"
   refine ⟨Nat.le_of_ble_eq_true rfl,fun R hR=>?_⟩
   replace hR:τ'.lists R=none:=hR
   have hR0:=le.none hR
   have hRK:=lk_ne hR kK
   repeat walk_at "mine"
   refine o_pow (Int.natCast_nonneg p) (Int.ofNat_le.mpr (Nat.le_trans (Nat.le_of_lt hp) (by decide))) (by decide) ?_
   rw[Int.toNat_natCast]
   refine o_div (Int.pow_ne_zero (by decide)) (p4_small hp) ?_
   repeat walk_at "mine"
   refine o_modE hr.2.1 (by decide) ?_
   refine it_lst (i:=rd) setL_get hro.1 (Int.lt_of_lt_of_le (Int.ofNat_lt.mpr hr.2.2) (by decide)) ?_
   unfold sV
   repeat walk_at "mine"
   refine sl_to (p:=p) hpl hwz ?_
   rw[List.take_append_of_le_length hpw]
   refine c_in ?_
   generalize hTS:(ptSeq (ptAug 3 Operator.Add _) _:PT Fl)=TS
   have f2:TS QF (setV (setV (setL τ' R [V.str (S []),V.str (S [92,34]),V.str (S [92,92]),V.str (S [92,102])]) 8 (.str (S (rideU rd)))) 9 (.str (S [sg (w.take p) l]))):=by
    rw[←hTS]
    repeat walk_at "mine"
    refine o_addS (Nat.le_trans (Nat.add_le_add_right hro.2.1 1) (by decide)) ?_
    refine i_addS (Nat.le_trans (Nat.add_le_add_left (len1 hro.2.1) _) hb.1) ?_
    repeat walk_at "mine"
    cases ins with
    |true=>
     show if false=true then _ else _
     repeat walk_at "mine"
     exact hQ _ ⟨_,K,_,true,nx_flat ..,⟨v0,v1,v2,rfl,v4,v5,(setL_other hRK).trans kK,le.setL hR0⟩,lq⟩
    |false=>
     show if true=true then _ else _
     repeat walk_at "mine"
     refine ⟨Nat.le_of_ble_eq_true rfl,fun R2 hR2=>?_⟩
     replace hR2:τ'.lists R2=none:=(fresh hR2).2
     refine .addL ((setL_other (lk_ne hR2 kK)).trans ((setL_other hRK).trans kK)) setL_get (Nat.le_trans (Nat.le_of_eq (congrArg (· +2) (List.length_map ..))) hb.2) ?_
     repeat walk_at "mine"
     exact hQ _ ⟨_,K++[rideU rd,[sg (w.take p) l]],_,false,nx_flat ..,⟨v0,v1,v2,rfl,rfl,v5,setL_get.trans (by rw[List.map_append];rfl),((le.setL hR0).setL (le.none hR2)).setL hK⟩,lq⟩
   by_cases c:l∈w.take p
   ·rw[decide_eq_true c]
    unfold sg at f2
    rw[if_pos c] at f2
    repeat walk_at "mine"
    exact f2
   ·rw[decide_eq_false c]
    unfold sg at f2
    rw[if_neg c] at f2
    repeat walk_at "mine"
    refine m_upper (Nat.le_of_ble_eq_true rfl) ?_
    rw[(mc5' hin).2.1]
    repeat walk_at "mine"
    exact f2
  by_cases c:(decide (l∈[x,y])==sh)=true
  ·rw[if_pos c]
   repeat walk_at "mine"
   refine i_addS (b:=[34]) (pp.bnd hp) ?_
   repeat walk_at "mine"
   exact go _ (T0++[[34]]) _ (fun τ h=>h) ⟨v0,v1,v2,by rw[List.flatten_append];exact rfl,v4,by rw[eq_of_beq c];exact rfl,kK,le⟩ rfl rfl (pp.quo hl hr.1 c)
  ·rw[if_neg c]
   repeat walk_at "mine"
   exact go _ T0 _ (fun τ h=>h) ⟨v0,v1,v2,v3,v4,by rw[←bnot_of _ _ c];exact v5,kK,le⟩ rfl rfl (pp.unq hl hr.1 c)
 ·intro τ I
  rw[show (List.map (fun i:Nat=>V.int (i:Int)) (List.range 8)).length=8 from (List.length_map ..).trans List.length_range] at I
  refine I.casesOn fun T0 K F sh hF b pp=>?_
  clear I
  subst hF
  have hf:=pp.fin hw
  have hst:List.drop 8 (w++[st])=[st]:=by rw[←hw];exact List.drop_left
  have h8:8≤(w++[st]).length:=Nat.le_trans (by decide) (Nat.le_of_eq hw9.symm)
  replace q:=fun σ' D=>q σ' D (rides draw)
  generalize tok x y [] w (rides draw) false=FU at hf q
  refine b.casesOn fun v0 v1 v2 v3 v4 v5 kK le=>?_
  refine hf.casesOn fun e1 e2 e3 e4 e5=>?_
  clear b hf hw hw9 hL hK v1 v2 pp
  rw[←hT]
  generalize hTT:(ptSeq (ptRet _) _:PT Fl)=TT
  have go: ∀(QF:Fl→St→Prop) (τ':St),(∀v τ,Q v ⟨σ.vars,τ.lists,σ.ro⟩→QF (.ret v) τ)→τ'.vars 0=some (.str (S (w++[st])))→τ'.vars 3=some (.str (S FU.flatten))→τ'.vars 4=some (.lst Kp)→τ'.lists Kp=some (K.map sV)→LE σ τ'→TT QF τ':=by
   clear v0 v3 v4 v5 kK le e1 e4
   intro QF τ' hQ v0 v3 v4 kK le
   rw[←hTT]
   repeat walk_at "mine"
   refine o_addS (b:=[34]) (Nat.le_trans (Nat.add_le_add_right e3 1) (by decide)) ?_
   repeat walk_at "mine"
   refine sl_from (p:=8) h8 hwz ?_
   rw[hst]
   refine o_addS (b:=[st]) (Nat.le_trans (Nat.add_le_add_right (len1 e3) 1) (by decide)) ?_
   repeat walk_at "mine"
   refine o_addS (b:=[92]) (Nat.le_trans (Nat.add_le_add_right (len1 (len1 e3)) 1) (by decide)) ?_
   rw[show FU.flatten++[34]++[st]++[92]=FU.flatten++[34,st,92] by rw[List.append_assoc,List.append_assoc];rfl]
   repeat walk_at "mine"
   refine ⟨Kp,K.map sV,rfl,kK,?_⟩
   refine CompGo.mk (LinC Kp K σ) ?_ ?_ ?_ ?_
   ·intro D hD
    exact ⟨if_pos rfl,(if_neg (lk_ne hD kK)).trans kK,rfl,le.setL (le.none hD)⟩
   ·exact fun D i ys σc _ _ h=>h.casesOn fun h1 h2 _ _=>⟨h1,h2⟩
   ·intro D i ys v σc hD hx h
    refine h.casesOn fun h1 h2 h3 h4=>?_
    refine Exists.elim (map_get hx) fun u hu=>?_
    rw[hu.1]
    have hDK:=lk_ne hD kK
    have hD0:=le.none hD
    clear h hx q hQ v0 v3 v4 kK le hTT hD
    repeat walk_at "mine"
    by_cases c:u=[]
    ·refine c_nesF c ?_
     repeat walk_at "mine"
     exact ⟨h1,h2,by rw[hu.2.1,c,fl_nil];exact h3,h4⟩
    ·refine c_nesT c ?_
     repeat walk_at "mine"
     refine ⟨h1,Nat.le_trans (Nat.succ_le_of_lt (Nat.lt_of_le_of_lt (h3▸fl_len K i) hu.2.2)) (Nat.le_trans e5 (Nat.le_of_ble_eq_true rfl)),setL_get,(setL_other hDK).trans h2,?_,h4.setL hD0⟩
     rw[hu.2.1,fl_one c,List.map_append,h3];rfl
   ·intro D ys σc hD h
    refine h.casesOn fun h1 h2 h3 h4=>?_
    have hys:ys.length≤16:=h3▸Nat.le_trans (fl_len K _) (Nat.le_trans (Nat.le_of_eq (List.length_map ..)) e5)
    rw[List.length_map,List.take_length,e2] at h3
    clear h hD
    repeat walk_at "mine"
    refine sl_from (p:=8) h8 hwz ?_
    rw[hst]
    repeat walk_at "mine"
    refine ⟨Nat.le_of_ble_eq_true rfl,fun R hR=>?_⟩
    replace hR:σc.lists R=none:=hR
    refine .addL ((setL_other (lk_ne hR h1)).trans h1) setL_get (Nat.le_trans (Nat.add_le_add_right hys 3) (Nat.le_of_ble_eq_true rfl)) fun R2 hR2=>?_
    replace hR2:σc.lists R2=none:=(fresh hR2).2
    repeat walk_at "mine"
    exact ⟨Nat.le_of_ble_eq_true rfl,hQ _ _ (q _ R2 (LE.ext ((h4.setL (h4.none hR)).setL (h4.none hR2))) (h4.none hR2) (setL_get.trans (congrArg some (by rw[List.map_append,←h3];rfl))))⟩
  cases sh with
  |true=>
   repeat walk_at "mine"
   refine i_addS (b:=[34]) (Nat.le_trans (Nat.add_le_add_right e4 1) (by decide)) ?_
   repeat walk_at "mine"
   exact go _ _ (fun v τ h=>h) v0 (by rw[←e1,List.flatten_append];exact rfl) v4 kK le
  |false=>
   repeat walk_at "mine"
   rw[if_neg (by decide),List.append_nil] at e1
   exact go _ _ (fun v τ h=>h) v0 (by rw[←e1];exact v3) v4 kK le
theorem line_sound (W:Wk C):FnSound C 1 W.a__law_line T_line:=
 FnSound.weak (fnAt_sound (m:=3) W W.f__law_line (W_law_line (k:=0) W).2 (fun pm cd doc vs h=>by
    obtain ⟨a,b,c,rfl⟩:=bind3 h
    rfl) (by kernel_rfl)) fun ds Q σ t=>con_line W ds Q σ t
end
end
section
open PySem PySem.Spec PySem.Calls PyProof.Rows PySem.W
section
variable {C:Ctx} {k:Nat} {σ:St}
noncomputable def GoodU (u:List Nat):Prop:=(∃c,c≠92∧u=[c])∨ ∃c,u=[92,c]
noncomputable def itemsU:List (List Nat)→Nat→List (Nat×List Nat)
 |[],_=>[]
 |u::us,i=>(i+u.length-1,u)::itemsU us (i+u.length)
noncomputable def tupV (p:Nat×List Nat):V:= .tup [.int (p.1:Int),.str (S p.2)]
theorem bsl_eq:bsl=S [92]:=lits_line.2.2.2.2
theorem one_bsl {c:Nat}:((⟨#[c]⟩:Str)=bsl)↔c=92:=by
 rw[bsl_eq]
 show S [c]=S [92]↔_
 rw[S_inj];simp
theorem itemsU_cons (u:List Nat) (us:List (List Nat)) (i:Nat):itemsU (u::us) i=(i+u.length-1,u)::itemsU us (i+u.length):=rfl
theorem escs_units: ∀(us:List (List Nat)) (i:Nat),(∀u∈us,GoodU u)→escs (us.flatten++[92]) i false=(itemsU (us++[[92]]) i).map tupV
 |[],i,_=>by
  show escs [92] i false=_
  unfold escs
  rw[if_pos (one_bsl.mpr rfl)]
  unfold escs
  rw[bsl_eq]
  simp[itemsU,tupV]
 |u::us,i,h=>by
  rw[List.flatten_cons,List.append_assoc,List.cons_append,itemsU_cons,List.map_cons]
  have ih:=fun j=>escs_units us j fun v hv=>h v (List.mem_cons_of_mem _ hv)
  rcases h u (by walk_at "s") with ⟨c,hc,rfl⟩|⟨c,rfl⟩
  ·rw[List.singleton_append]
   show escs (c::(us.flatten++[92])) i false=_
   unfold escs
   rw[if_neg (fun z=>hc (one_bsl.mp z)),ih];rfl
  ·show escs (92::c::(us.flatten++[92])) i false=_
   unfold escs
   rw[if_pos (one_bsl.mpr rfl)]
   unfold escs
   rw[ih]
   have e1:bsl++(⟨#[c]⟩:Str)=S [92,c]:=by rw[bsl_eq];exact S_app [92] [c]
   rw[e1];rfl
theorem items_lt: ∀(us:List (List Nat)) (i:Nat) (p:Nat×List Nat),(∀u∈us,u≠[])→p∈itemsU us i→p.1<i+us.flatten.length
 |u::us,i,p,hu,h=>by
  rw[itemsU_cons] at h
  rw[List.flatten_cons,List.length_append]
  have hul:0<u.length:=List.length_pos_iff.mpr (hu u (by walk_at "s"))
  rcases List.mem_cons.mp h with rfl|h
  ·show i+u.length-1<_;lia
  ·have:=items_lt us _ p (fun v hv=>hu v (List.mem_cons_of_mem _ hv)) h;lia
theorem items_len: ∀(us:List (List Nat)) (i:Nat),(itemsU us i).length=us.length
 |[],_=>rfl
 |u::us,i=>by rw[itemsU_cons,List.length_cons,List.length_cons,items_len us]
noncomputable def stripL (A:List Nat):List (Nat×List Nat)→Nat→Option Nat→List Nat→List Nat
 |[],s,_,r=>r++A.drop s
 |(p,u)::it,s,o,r=>if u=[34] then (match o with
  |none=>stripL A it s (some p) r
  |some q=>stripL A it (p+1) none (r++(A.drop s).take (q-s))) else stripL A it s o r
theorem stripL_nil (A:List Nat) (s:Nat) (o:Option Nat) (r:List Nat):stripL A [] s o r=r++A.drop s:=rfl
theorem stripL_cons (A:List Nat) (p:Nat) (u:List Nat) (it:List (Nat×List Nat)) (s:Nat) (o:Option Nat) (r:List Nat):stripL A ((p,u)::it) s o r=if u=[34] then (match o with
  |none=>stripL A it s (some p) r
  |some q=>stripL A it (p+1) none (r++(A.drop s).take (q-s))) else stripL A it s o r:=rfl
noncomputable def oV:Option Nat→V
 |none=> .none
 |some q=> .int (q:Int)
inductive T_strip (ds:List V) (Q:V→St→Prop) (σ:St):Prop
 |mk (us:List (List Nat)) (h1:ds=[.str (S (us.flatten++[92]))]) (h2:(∀u∈us,GoodU u)) (h3:[34]∈us) (h4:us.length≤1000) (h5: ∀σ',Ext σ σ'→Q (.str (S (stripL (us.flatten++[92]) (itemsU (us++[[92]]) 0) 0 none []))) σ'):T_strip ds Q σ
theorem p_forG {P:PT V} {T:AT} {B:PT Fl} {QF:Fl→St→Prop} (q:P (fun v σ₁=>StrGo (fun x σ₂=>ForOkG (escV x) T B QF σ₂) [v] σ₁) σ):ptForG P T B QF σ:=q
theorem c_notin {c:Nat} {l:List Nat} {QB:Bool→St→Prop} {σ:St} (q:QB (!decide (c∈l)) σ):cmpPT .NotIn (.str (S [c])) (.str (S l)) QB σ:=by
 refine .notS (x:=S l) (y:=S [c]) ?_
 show QB (!(!(Builtin.Str.occurrences (S l) ⟨#[c]⟩ 0 (S l).length 1).isEmpty)) σ
 rw[StrLaws.found_one]
 exact q
theorem sl_mid {A:List Nat} {s p:Nat} {Q:V→St→Prop} {σ:St} (h:s≤A.length) (hz:A.length≤16777216) (q:Q (.str (S ((A.drop s).take (p-s)))) σ):slPT (.str (S A)) (.int (s:Int)) (.int (p:Int)) Q σ:=by
 refine .str (lo:=some (s:Int)) (hi:=some (p:Int)) rfl rfl (s_size hz) ?_
 have:strCut (S A) (some (s:Int)) (some (p:Int))=S ((A.drop s).take (p-s)):=by
  show (⟨(cut (A.toArray.toList) (some (s:Int)) (some (p:Int))).toArray⟩:Str)=S _
  rw[List.toList_toArray,cut_mid h];rfl
 rw[this];exact q
inductive SInv (A:List Nat) (its:List (Nat×List Nat)) (Rs:Addr) (FIN:List Nat) (σ:St) (i:Nat) (τ:St):Prop
 |mk (s:Nat) (o:Option Nat) (R:List (List Nat)) (h1:τ.vars 0=some (.str (S A))) (h2:τ.vars 1=some (.int (s:Int))) (h3:τ.vars 2=some (oV o)) (h4:τ.vars 3=some (.lst Rs)) (h5:τ.lists Rs=some (R.map sV)) (h6:LE σ τ) (h7:τ.ro=(fun _=>none)) (h8:R.length≤i) (h9:(R.map (·.length)).sum≤A.length*i) (h10:s≤A.length) (h11:i≤its.length) (h12:stripL A (its.drop i) s o R.flatten=FIN):SInv A its Rs FIN σ i τ
theorem con_strip (W:Wk C) (hG:C.gOk=AllBare) (ds:List V) (Q:V→St→Prop) (σ:St) (t:T_strip ds Q σ):fnCon 1 (W_strip_quoted_realnames (k:=k) W hG).1 ds Q σ:=by
 obtain ⟨us,rfl,hU,h34,hl,q⟩:=t
 refine fn_con rfl ?_
 unfold W_strip_quoted_realnames
 dsimp only
 have hz:10000≤sizeLine:=Nat.le_of_ble_eq_true rfl
 have hz2:sizeLine=16777216:=rfl
 rw[lits_line.1,str_nil]
 have hul: ∀l:List (List Nat),(∀u∈l,GoodU u)→l.flatten.length≤2*l.length:=by
  intro l
  induction l with
  |nil=>intro _;exact Nat.le_refl _
  |cons u l ih=>
   intro h
   have:=ih fun v hv=>h v (List.mem_cons_of_mem _ hv)
   rw[List.flatten_cons,List.length_append,List.length_cons]
   rcases h u (by walk_at "s") with ⟨c,_,rfl⟩|⟨c,rfl⟩
   ·rw[List.length_singleton];lia
   ·have:([92,c]:List Nat).length=2:=rfl
    lia
 have hAl:(us.flatten++[92]).length≤2001:=by rw[List.length_append,List.length_singleton];have:=hul us hU;lia
 have hmem:34∈us.flatten++[92]:=List.mem_append_left _ (List.mem_flatten.mpr ⟨[34],h34,by walk_at "s"⟩)
 have hit: ∀p∈itemsU (us++[[92]]) 0,p.1<(us.flatten++[92]).length:=by
  intro p hp
  have:=items_lt (us++[[92]]) 0 p (by
   intro u hu
   rcases List.mem_append.mp hu with h|h
   ·rcases hU u h with ⟨c,_,rfl⟩|⟨c,rfl⟩<;>simp
   ·rw[List.mem_singleton.mp h];simp) hp
  rw[List.flatten_append] at this
  have e:([[92]]:List (List Nat)).flatten=[92]:=rfl
  rw[e] at this;lia
 have hesc:escV (S (us.flatten++[92]))=(itemsU (us++[[92]]) 0).map tupV:=escs_units us 0 hU
 have hil:(itemsU (us++[[92]]) 0).length≤1001:=by rw[items_len,List.length_append,List.length_singleton];lia
 generalize us.flatten++[92]=A at*
 generalize itemsU (us++[[92]]) 0=its at*
 repeat walk_at "mine"
 refine c_notin ?_
 rw[decide_eq_true hmem]
 repeat walk_at "mine"
 refine ⟨Nat.le_of_ble_eq_true rfl,fun Rs hRs=>?_⟩
 replace hRs:σ.lists Rs=none:=hRs
 repeat walk_at "mine"
 refine p_forG ?_
 repeat walk_at "mine"
 refine ⟨S A,rfl,rfl,?_⟩
 rw[hesc]
 generalize hFIN:stripL A its 0 none []=FIN at*
 refine ForOkG.mk (SInv A its Rs FIN σ) ?_ ?_ ?_ ?_
 ·exact ⟨0,none,[],rfl,rfl,rfl,rfl,setL_get,LE.refl.setL hRs,rfl,by walk_at "s",by walk_at "s",by walk_at "a",by walk_at "a",hFIN⟩
 ·rintro i τ ⟨s,o,R,_,_,_,_,_,_,h,_⟩;exact h
 ·rintro i v τ hx ⟨s,o,R,v0,v1,v2,v3,kR,le,ro,hRl,hRs2,hs,hii,e⟩
  have hi:i<its.length:=by
   have:=(List.getElem?_eq_some_iff.mp hx).1
   rw[List.length_map] at this;exact this
  rw[List.getElem?_map,List.getElem?_eq_getElem hi] at hx
  cases hx
  have hmemi:=hit _ (List.getElem_mem hi)
  rw[List.drop_eq_getElem_cons hi] at e
  generalize its[i]=pu at*
  obtain ⟨p,u⟩:=pu
  replace hmemi:p<A.length:=hmemi
  rw[stripL_cons] at e
  have hmul:A.length*(i+1)=A.length*i+A.length:=Nat.mul_succ ..
  unfold tupV
  repeat walk_at "mine"
  by_cases cu:u=[34]
  ·rw[if_pos cu] at e
   refine c_eqsT cu ?_
   repeat walk_at "mine"
   cases o with
   |none=>
    refine .isN (b:=true) rfl ?_
    show if true=true then _ else _
    repeat walk_at "mine"
    exact ⟨s,some p,R,v0,v1,rfl,v3,kR,le,ro,by walk_at "a",by walk_at "a",hs,by walk_at "a",e⟩
   |some q=>
    refine .isN (b:=false) rfl ?_
    show if false=true then _ else _
    replace e:stripL A (its.drop (i+1)) (p+1) none (R.flatten++(A.drop s).take (q-s))=FIN:=e
    repeat walk_at "mine"
    have fin: ∀(TT:PT Fl) (QF:Fl→St→Prop) (τ':St) (R':List (List Nat)),(∀τ,SInv A its Rs FIN σ (i+1) τ→QF .next τ)→(ptSeq (ptAsgs [atName 1] (ptBin Operator.Add (ptVar 4) (ptInt 1))) (ptSeq (ptAsgs [atName 2] ptNone) ptNil):PT Fl)=TT→
      τ'.vars 0=some (.str (S A))→τ'.vars 3=some (.lst Rs)→τ'.vars 4=some (.int (p:Int))→τ'.lists Rs=some (R'.map sV)→LE σ τ'→τ'.ro=(fun _=>none)→R'.length≤i+1→(R'.map (·.length)).sum≤A.length*(i+1)→R'.flatten=R.flatten++(A.drop s).take (q-s)→TT QF τ':=by
     intro TT QF τ' R' hQ hTT a0 a3 a4 aR ale aro al1 al2 af
     rw[←hTT]
     repeat walk_at "mine"
     refine o_addE (c:=((p+1:Nat):Int)) (by walk_at "a") ?_
     repeat walk_at "mine"
     exact hQ _ ⟨p+1,none,R',a0,rfl,rfl,a3,aR,ale,aro,al1,al2,by walk_at "a",by walk_at "a",by rw[af];exact e⟩
    generalize hTT:(ptSeq (ptAsgs [atName 1] _) _:PT Fl)=TT
    by_cases cs:s=q
    ·refine c_neiF (by walk_at "a") ?_
     repeat walk_at "mine"
     refine fin TT _ _ R (fun τ h=>h) hTT v0 v3 rfl kR le ro (by walk_at "a") (by walk_at "a") ?_
     rw[cs,Nat.sub_self];simp
    ·refine c_neiT (by walk_at "a") ?_
     repeat walk_at "mine"
     refine fit_lst rfl kR ?_
     repeat walk_at "mine"
     refine sl_mid hs (by walk_at "a") ?_
     repeat walk_at "mine"
     refine m_append kR (by rw[List.length_map];lia) ?_
     repeat walk_at "mine"
     refine fin TT _ _ (R++[(A.drop s).take (q-s)]) (fun τ h=>h) hTT v0 v3 rfl ?_ (le.setL hRs) ro ?_ ?_ ?_
     ·refine setL_get.trans ?_
      rw[List.map_append];rfl
     ·rw[List.length_append,List.length_singleton];lia
     ·rw[List.map_append,List.sum_append]
      have:((List.map (fun x:List Nat=>x.length) [(A.drop s).take (q-s)]).sum)≤A.length:=by
       simp;lia
      lia
     ·rw[List.flatten_append];simp
  ·rw[if_neg cu] at e
   refine c_eqsF cu ?_
   repeat walk_at "mine"
   exact ⟨s,o,R,v0,v1,v2,v3,kR,le,ro,by walk_at "a",by walk_at "a",hs,by walk_at "a",e⟩
 ·rintro τ ⟨s,o,R,v0,v1,v2,v3,kR,le,ro,hRl,hRs2,hs,hii,e⟩
  rw[List.length_map,List.drop_length,stripL_nil] at e
  rw[List.length_map] at hRs2 hRl
  have hmul:A.length*its.length≤2001*1001:=Nat.mul_le_mul hAl hil
  repeat walk_at "mine"
  refine bi_lenS (by walk_at "a") ?_
  by_cases c:s<A.length
  ·refine c_ltT (by walk_at "a") ?_
   repeat walk_at "mine"
   refine fit_lst rfl kR ?_
   repeat walk_at "mine"
   refine sl_from hs (by walk_at "a") ?_
   repeat walk_at "mine"
   refine m_append kR (by rw[List.length_map];lia) ?_
   repeat walk_at "mine"
   refine m_join (ls:=R++[A.drop s]) ?_ ?_ ?_
   ·refine setL_get.trans ?_
    rw[List.map_append,List.map_append,List.map_map];rfl
   ·rw[List.map_append,List.sum_append]
    have:((List.map (fun x:List Nat=>x.length) [A.drop s]).sum)≤A.length:=by simp
    lia
   ·rw[List.flatten_append]
    have:([A.drop s]:List (List Nat)).flatten=A.drop s:=by simp
    rw[this,e]
    exact q _ (LE.ext (le.setL hRs))
  ·refine c_ltF (by walk_at "a") ?_
   repeat walk_at "mine"
   refine m_join (ls:=R) ?_ (by walk_at "a") ?_
   ·rw[kR,List.map_map];rfl
   ·rw[List.drop_eq_nil_of_le (by walk_at "a"),List.append_nil] at e
    rw[e]
    exact q _ le.ext
theorem strip_sound (W:Wk C) (hG:C.gOk=AllBare):FnSound C 5 W.a__strip_quoted_realnames T_strip:=
 FnSound.weak (fnAt_sound (m:=1) W W.f__strip_quoted_realnames (W_strip_quoted_realnames (k:=0) W hG).2 (fun pm cd doc vs h=>by
    obtain ⟨a,rfl⟩:=bind1 h
    rfl) (by kernel_rfl)) fun ds Q σ t=>con_strip W hG ds Q σ t
end
end
section
open PySem PySem.Spec PySem.Calls PyProof.Rows PySem.W
section
noncomputable def UOk (u:List Nat):Prop:=GoodU u∧ ∀c∈u,c<1114112
theorem L4_of {c:Nat} (h:c∈L4):c=102∨c=105∨c=115∨c=116:=by unfold L4 at h;simpa using h
theorem uok1 {c:Nat} (h:c<92):UOk [c]:=⟨.inl ⟨c,by walk_at "a",rfl⟩,by intro d hd;rw[List.mem_singleton.mp hd];lia⟩
theorem uok1' {c:Nat} (h:c≠92) (h':c<1114112):UOk [c]:=⟨.inl ⟨c,h,rfl⟩,by intro d hd;rw[List.mem_singleton.mp hd];exact h'⟩
theorem uok_ride (r:Nat): ∀u∈unit1 (rideU r),UOk u:=by
 intro u hu
 unfold rideU at hu
 split at hu<;>simp[unit1] at hu<;>subst hu<;>exact ⟨.inr ⟨_,rfl⟩,by walk_at "s"⟩
theorem sg_ok {seen:List Nat} {l:Nat} (h:l∈L4):UOk [sg seen l]∧okc (sg seen l)=true∧sg seen l≠34:=by
 unfold sg
 rcases L4_of h with rfl|rfl|rfl|rfl<;>split<;>exact ⟨uok1' (by decide) (by decide),by decide,by decide⟩
theorem tok_ok (x y:Nat): ∀(w seen rs:List Nat) (sh:Bool),(∀c∈w,c∈L4)→ ∀u∈tok x y seen w rs sh,UOk u
 |[],seen,rs,sh,_,u,hu=>by
  rw[tok_nil] at hu
  split at hu
  ·rw[List.mem_singleton.mp hu];exact uok1 (by decide)
  ·simp at hu
 |l::w,seen,rs,sh,h,u,hu=>by
  rw[tok_cons] at hu
  simp only[List.mem_append] at hu
  rcases hu with ((hu|hu)|hu)|hu
  ·split at hu
   ·rw[List.mem_singleton.mp hu];exact uok1 (by decide)
   ·simp at hu
  ·exact uok_ride _ u hu
  ·rw[List.mem_singleton.mp hu];exact (sg_ok (h l (by walk_at "s"))).1
  ·exact tok_ok x y w _ _ _ (fun c hc=>h c (List.mem_cons_of_mem _ hc)) u hu
theorem tok_len (x y:Nat): ∀(w seen rs:List Nat) (sh:Bool),(tok x y seen w rs sh).length≤3*w.length+1
 |[],seen,rs,sh=>by rw[tok_nil];split<;>simp
 |l::w,seen,rs,sh=>by
  rw[tok_cons]
  simp only[List.length_append,List.length_cons,List.length_nil]
  have:=tok_len x y w (seen++[l]) rs.tail (!decide (l∈[x,y]))
  have h1:(if (decide (l∈[x,y])==sh)=true then ([[34]]:List (List Nat)) else []).length≤1:=by split<;>simp
  have h2:(unit1 (rideU (rs.headD 0))).length≤1:=by unfold unit1;split<;>simp
  lia
theorem step_units {x y l:Nat} {seen rs:List Nat} {sh:Bool} (h:l∈L4):
  shA ((if (decide (l∈[x,y])==sh)=true then [[34]] else [])++unit1 (rideU (rs.headD 0))++[[sg seen l]]) sh= !decide (l∈[x,y])∧
  outU ((if (decide (l∈[x,y])==sh)=true then [[34]] else [])++unit1 (rideU (rs.headD 0))++[[sg seen l]]) sh=if l∈[x,y] then unit1 (rideU (rs.headD 0))++[[sg seen l]] else []:=by
 have hn:([sg seen l]:List Nat)≠[34]:=by intro z;exact (sg_ok h).2.2 (by simpa using z)
 have hr: ∀b,shA (unit1 (rideU (rs.headD 0))) b=b∧outU (unit1 (rideU (rs.headD 0))) b=if b=true then [] else unit1 (rideU (rs.headD 0)):=by
  intro b
  unfold rideU
  split<;>cases b<;>exact ⟨rfl,rfl⟩
 have hs: ∀b,shA [[sg seen l]] b=b∧outU [[sg seen l]] b=if b=true then [] else [[sg seen l]]:=by
  intro b
  rw[shA_cons,outU_cons,if_neg hn,if_neg hn]
  cases b<;>exact ⟨rfl,rfl⟩
 have h34:shA (if (decide (l∈[x,y])==sh)=true then [[34]] else []) sh= !decide (l∈[x,y])∧outU (if (decide (l∈[x,y])==sh)=true then [[34]] else []) sh=[]:=by
  by_cases c:l∈[x,y]
  ·rw[decide_eq_true c];cases sh<;>exact ⟨rfl,rfl⟩
  ·rw[decide_eq_false c];cases sh<;>exact ⟨rfl,rfl⟩
 rw[shA_app,shA_app,outU_app,outU_app,shA_app,h34.1,h34.2,(hr _).1,(hr _).2,(hs _).1,(hs _).2]
 refine ⟨rfl,?_⟩
 by_cases c:l∈[x,y]
 ·rw[decide_eq_true c,if_pos c];rfl
 ·rw[decide_eq_false c,if_neg c];rfl
theorem tok_shut (x y:Nat): ∀(w seen rs:List Nat) (sh:Bool),(∀c∈w,c∈L4)→shA (tok x y seen w rs sh) sh=false
 |[],seen,rs,sh,_=>by rw[tok_nil];cases sh<;>rfl
 |l::w,seen,rs,sh,h=>by
  rw[tok_cons,shA_app,(step_units (h l (by walk_at "s"))).1]
  exact tok_shut x y w _ _ _ fun c hc=>h c (List.mem_cons_of_mem _ hc)
noncomputable def bareN (x y:Nat):List Nat→List Nat→List Nat
 |_,[]=>[]
 |seen,l::w=>(if l∈[x,y] then [sg seen l] else [])++bareN x y (seen++[l]) w
noncomputable def knownL:List (List Nat):=[[102],[105],[115],[116],[70],[73],[83],[84]]
theorem known_sg {c:Nat} (h:okc c=true):[c]∈knownL:=by
 have:=okc_mem h
 unfold knownL
 simp only[List.mem_cons,List.not_mem_nil,or_false] at this
 rcases this with rfl|rfl|rfl|rfl|rfl|rfl|rfl|rfl<;>decide
theorem tok_bare (x y:Nat): ∀(w seen rs:List Nat) (sh:Bool),(∀c∈w,c∈L4)→((outU (tok x y seen w rs sh) sh).filter fun u=>decide (u∈knownL)).flatten=bareN x y seen w
 |[],seen,rs,sh,_=>by rw[tok_nil];cases sh<;>rfl
 |l::w,seen,rs,sh,h=>by
  rw[tok_cons,outU_app,(step_units (h l (by walk_at "s"))).1,(step_units (h l (by walk_at "s"))).2,List.filter_append,List.flatten_append]
  have ih:=tok_bare x y w (seen++[l]) rs.tail (!decide (l∈[x,y])) fun c hc=>h c (List.mem_cons_of_mem _ hc)
  rw[ih]
  show _=(if l∈[x,y] then [sg seen l] else [])++bareN x y (seen++[l]) w
  congr 1
  by_cases c:l∈[x,y]
  ·rw[if_pos c,if_pos c,List.filter_append]
   have h1:(unit1 (rideU (rs.headD 0))).filter (fun u=>decide (u∈knownL))=[]:=by
    unfold rideU
    split<;>rfl
   rw[h1,List.nil_append]
   simp[known_sg (sg_ok (h l (by walk_at "s"))).2.1]
  ·rw[if_neg c,if_neg c];rfl
theorem outU_mem: ∀(us:List (List Nat)) (sh:Bool) (u:List Nat),u∈outU us sh→u∈us∧u≠[34]
 |[],_,_,h=>by simp[outU] at h
 |v::us,sh,u,h=>by
  rw[outU_cons] at h
  split at h
  ·have:=outU_mem us _ u h;exact ⟨List.mem_cons_of_mem _ this.1,this.2⟩
  ·rename_i hv
   split at h
   ·have:=outU_mem us _ u h;exact ⟨List.mem_cons_of_mem _ this.1,this.2⟩
   ·rcases List.mem_cons.mp h with rfl|h
    ·exact ⟨by walk_at "s",hv⟩
    ·have:=outU_mem us _ u h;exact ⟨List.mem_cons_of_mem _ this.1,this.2⟩
theorem outU_len: ∀(us:List (List Nat)) (sh:Bool),(outU us sh).length≤us.length
 |[],_=>Nat.le_refl _
 |v::us,sh=>by
  rw[outU_cons]
  have:=fun b=>outU_len us b
  split
  ·exact Nat.le_succ_of_le (this _)
  ·split
   ·exact Nat.le_succ_of_le (this _)
   ·exact Nat.succ_le_succ (this _)
noncomputable def keptT (A:List Nat) (s:Nat) (o:Option Nat) (r:List Nat) (i:Nat):List Nat:=r++(A.drop s).take (o.getD i-s)
theorem strip_run (A:List Nat) (tail:List (List Nat)): ∀(us:List (List Nat)) (i s:Nat) (o:Option Nat) (r Z:List Nat),A.drop i=us.flatten++Z→i≤A.length→s≤i→(∀q,o=some q→s≤q∧q≤i)→(∀u∈us,u≠[])→
  ∃s' o' r',stripL A (itemsU (us++tail) i) s o r=stripL A (itemsU tail (i+us.flatten.length)) s' o' r'∧s'≤i+us.flatten.length∧o'.isSome=shA us o.isSome∧
   keptT A s' o' r' (i+us.flatten.length)=keptT A s o r i++(outU us o.isSome).flatten
 |[],i,s,o,r,Z,_,_,hs,_,_=>⟨s,o,r,rfl,hs,rfl,(List.append_nil _).symm⟩
 |u::us,i,s,o,r,Z,hA,hi,hs,ho,hne=>by
  rw[List.cons_append,itemsU_cons,stripL_cons,shA_cons,outU_cons,List.flatten_cons,List.length_append,←Nat.add_assoc]
  rw[List.flatten_cons,List.append_assoc] at hA
  have hul:0<u.length:=List.length_pos_iff.mpr (hne u (by walk_at "s"))
  have hA':A.drop (i+u.length)=us.flatten++Z:=by
   rw[←List.drop_drop,hA,List.drop_left]
  have hAl:i+u.length≤A.length:=by
   have:=congrArg List.length hA
   rw[List.length_drop,List.length_append] at this;lia
  have hne': ∀v∈us,v≠[]:=fun v hv=>hne v (List.mem_cons_of_mem _ hv)
  by_cases c:u=[34]
  ·rw[if_pos c,if_pos c,if_pos c]
   have hl1:u.length=1:=by rw[c];rfl
   cases o with
   |none=>
    obtain ⟨s',o',r',e1,e2,e3,e4⟩:=strip_run A tail us (i+u.length) s (some (i+u.length-1)) r Z hA' hAl (by walk_at "a") (fun q hq=>by cases hq;lia) hne'
    refine ⟨s',o',r',e1,e2,e3,?_⟩
    rw[e4]
    show keptT A s (some (i+u.length-1)) r (i+u.length)++_=keptT A s none r i++_
    unfold keptT
    simp only[Option.getD_some,Option.getD_none]
    rw[hl1];rfl
   |some q=>
    obtain ⟨hq1,hq2⟩:=ho q rfl
    obtain ⟨s',o',r',e1,e2,e3,e4⟩:=strip_run A tail us (i+u.length) (i+u.length-1+1) none (r++(A.drop s).take (q-s)) Z hA' hAl (by walk_at "a") (fun q hq=>by cases hq) hne'
    refine ⟨s',o',r',e1,e2,e3,?_⟩
    rw[e4]
    show keptT A (i+u.length-1+1) none (r++(A.drop s).take (q-s)) (i+u.length)++_=keptT A s (some q) r i++_
    unfold keptT
    simp only[Option.getD_some,Option.getD_none]
    have:i+u.length-(i+u.length-1+1)=0:=by walk_at "a"
    rw[this,List.take_zero,List.append_nil];rfl
  ·rw[if_neg c,if_neg c,if_neg c]
   cases o with
   |none=>
    obtain ⟨s',o',r',e1,e2,e3,e4⟩:=strip_run A tail us (i+u.length) s none r Z hA' hAl (by walk_at "a") (fun q hq=>by cases hq) hne'
    refine ⟨s',o',r',e1,e2,e3,?_⟩
    rw[e4]
    show keptT A s none r (i+u.length)++(outU us false).flatten=keptT A s none r i++(if (none:Option Nat).isSome=true then outU us false else u::outU us false).flatten
    rw[if_neg (by decide),List.flatten_cons,←List.append_assoc]
    congr 1
    unfold keptT
    simp only[Option.getD_none]
    rw[List.append_assoc]
    congr 1
    have e:i+u.length-s=(i-s)+u.length:=by walk_at "a"
    rw[e,List.take_add]
    congr 1
    rw[List.drop_drop]
    have e2:s+(i-s)=i:=by walk_at "a"
    rw[e2,hA,List.take_left]
   |some q=>
    obtain ⟨hq1,hq2⟩:=ho q rfl
    obtain ⟨s',o',r',e1,e2,e3,e4⟩:=strip_run A tail us (i+u.length) s (some q) r Z hA' hAl (by walk_at "a") (fun q' hq=>by cases hq;lia) hne'
    exact ⟨s',o',r',e1,e2,e3,e4⟩
theorem strip_line {FU:List (List Nat)} {st:Nat} (hne: ∀u∈FU,u≠[]) (hsh:shA FU false=false) (hst:st≠34):
  stripL ((FU++[[34],[st]]).flatten++[92]) (itemsU ((FU++[[34],[st]])++[[92]]) 0) 0 none []=(outU FU false++[[34],[st]]).flatten++[92]:=by
 have hA:(FU++[[34],[st]]).flatten++[92]=FU.flatten++[34,st,92]:=by rw[List.flatten_append,List.append_assoc];rfl
 rw[hA,List.append_assoc]
 obtain ⟨s',o',r',e1,e2,e3,e4⟩:=strip_run (FU.flatten++[34,st,92]) ([[34],[st]]++[[92]]) FU 0 0 none [] [34,st,92] rfl (Nat.zero_le _) (Nat.le_refl _) (fun q hq=>by cases hq) hne
 rw[e1]
 have e3':o'.isSome=false:=by rw[e3];exact hsh
 cases o' with
 |some q=>cases e3'
 |none=>
  rw[Nat.zero_add] at e2 e4⊢
  have e4':keptT (FU.flatten++[34,st,92]) s' none r' FU.flatten.length=(outU FU false).flatten:=e4
  have hi:itemsU ([[34],[st]]++[[92]]) FU.flatten.length=[(FU.flatten.length,[34]),(FU.flatten.length+1,[st]),(FU.flatten.length+2,[92])]:=rfl
  rw[hi,stripL_cons,if_pos rfl]
  show stripL _ [(FU.flatten.length+1,[st]),(FU.flatten.length+2,[92])] s' (some FU.flatten.length) r'=_
  rw[stripL_cons,if_neg (by simpa using hst),stripL_cons,if_neg (by decide),stripL_nil]
  rw[List.flatten_append]
  unfold keptT at e4'
  rw[←e4']
  simp only[Option.getD_none]
  rw[List.append_assoc,List.append_assoc]
  congr 1
  have:List.drop s' (FU.flatten++[34,st,92])=List.drop s' FU.flatten++[34,st,92]:=List.drop_append_of_le_length e2
  rw[this,List.take_append_of_le_length (by rw[List.length_drop];lia),List.take_of_length_le (by rw[List.length_drop];exact Nat.le_refl _)]
  rfl
end
end
section
open PySem PySem.Spec PySem.Calls PyProof.Rows PySem.W
section
variable {C:Ctx} {k:Nat} {σ:St} {Q:V→St→Prop} {QB:Bool→St→Prop}
theorem items_snd: ∀(us:List (List Nat)) (j:Nat) (p:Nat×List Nat),p∈itemsU us j→p.2∈us
 |u::us,j,p,h=>by
  rw[itemsU_cons] at h
  rcases List.mem_cons.mp h with rfl|h
  ·exact List.mem_cons_self
  ·exact List.mem_cons_of_mem _ (items_snd us _ p h)
theorem items_get: ∀(us:List (List Nat)) (j i:Nat) (u:List Nat),us[i]? =some u→(itemsU us j)[i]? =some (j+(us.take (i+1)).flatten.length-1,u)
 |v::us,j,0,u,h=>by
  cases h
  rw[itemsU_cons]
  simp
 |v::us,j,i+1,u,h=>by
  have:=items_get us (j+v.length) i u h
  rw[itemsU_cons,List.getElem?_cons_succ,this,List.take_succ_cons,List.flatten_cons,List.length_append,Nat.add_assoc]
noncomputable def tupD (p:Nat×List Nat):PyData:= .tuple [.int (p.1:Int),.str (S p.2)]
theorem allSome_map {α β γ:Type} (f:β→Option γ) (g:α→β) (h:α→γ) (e: ∀a,f (g a)=some (h a)): ∀l:List α,allSome f (l.map g)=some (l.map h)
 |[]=>rfl
 |a::r=>by
  rw[List.map_cons,List.map_cons]
  unfold allSome
  rw[e a,allSome_map f g h e r]
theorem tup_py (its:List (Nat×List Nat)):allSome V.py1 (its.map tupV)=some (its.map tupD):=allSome_map V.py1 tupV tupD (fun _=>rfl) its
theorem str_py (us:List (List Nat)):allSome V.py0 (us.map sV)=some (us.map fun u=>PyData.str (S u)):=allSome_map V.py0 sV (fun u=>PyData.str (S u)) (fun _=>rfl) us
theorem strOk_S {u:List Nat} (h: ∀c∈u,c<1114112):PyData.strOk (S u)=true:=by
 unfold PyData.strOk
 rw[Array.all_eq_true']
 intro c hc
 have:c∈u:=by simpa [S] using hc
 exact decide_eq_true (h c this)
theorem tup_lay: ∀its:List (Nat×List Nat),(∀p∈its,∀c∈p.2,c<1114112)→PyData.canLayAll0 (its.map tupD)=true
 |[],_=>by rw[List.map_nil,PyData.canLayAll0]
 |p::r,h=>by
  rw[List.map_cons,PyData.canLayAll0,tup_lay r fun q hq=>h q (List.mem_cons_of_mem _ hq),Bool.and_true]
  unfold tupD
  rw[PyData.canLay0,PyData.canLayAll0,PyData.canLayAll0,PyData.canLayAll0,PyData.canLay0,PyData.canLay0,strOk_S (h p (by walk_at "s"))];rfl
theorem str_lay: ∀us:List (List Nat),(∀u∈us,∀c∈u,c<1114112)→PyData.canLayAll0 (us.map fun u=>PyData.str (S u))=true
 |[],_=>by rw[List.map_nil,PyData.canLayAll0]
 |u::r,h=>by
  rw[List.map_cons,PyData.canLayAll0,str_lay r fun q hq=>h q (List.mem_cons_of_mem _ hq),Bool.and_true,PyData.canLay0,strOk_S (h u (by walk_at "s"))]
theorem c_neSame {a b:Addr} {its:List (Nat×List Nat)} (h:σ.lists a=some (its.map tupV)) (h':σ.lists b=some (its.map tupV)) (ok: ∀p∈its,∀c∈p.2,c<1114112) (q:QB false σ):cmpPT .NotEq (.lst a) (.lst b) QB σ:=by
 have hd: ∀c,σ.lists c=some (its.map tupV)→σ.py (.lst c)=some (.list (its.map tupD)):=fun c hc=>by
  show (match σ.lists c with|some xs=>(allSome V.py1 xs).map PyData.list|none=>none)=_
  rw[hc]
  show (allSome V.py1 (its.map tupV)).map PyData.list=_
  rw[tup_py];rfl
 have hl:(PyData.list (its.map tupD)).canLay0=true:=by rw[PyData.canLay0];exact tup_lay its ok
 refine .ne (hd a h) (hd b h') hl hl ?_
 rw[SeqAt.eqv_refl _ hl]
 exact q
theorem any_str (L:List (List Nat)) (u:List Nat):((L.map fun u=>PyData.str (S u)).any fun y=>PyData.eqv y (.str (S u)))=decide (u∈L):=by
 induction L with
 |nil=>rfl
 |cons v r ih=>
  rw[List.map_cons,List.any_cons,ih,PyData.eqv,beqS]
  by_cases c:v=u
  ·rw[c,decide_eq_true rfl,Bool.true_or,decide_eq_true List.mem_cons_self]
  ·rw[decide_eq_false (fun z=>c (S_inj.mp z)),Bool.false_or]
   exact decide_eq_decide.mpr ⟨List.mem_cons_of_mem _,fun h=>(List.mem_cons.mp h).resolve_left (Ne.symm c)⟩
theorem c_inL {a:Addr} {L:List (List Nat)} {u:List Nat} (h:σ.lists a=some (L.map sV)) (hL: ∀u∈L,∀c∈u,c<1114112) (hu: ∀c∈u,c<1114112) (q:QB (decide (u∈L)) σ):cmpPT .In (.str (S u)) (.lst a) QB σ:=
 .inL h (str_py L) rfl (str_lay L hL) (by rw[PyData.canLay0];exact strOk_S hu) (by rw[any_str];exact q)
theorem c_inK {a:Addr} {u:List Nat} (h:σ.lists a=some (knownL.map sV)) (hu: ∀c∈u,c<1114112) (q:QB (decide (u∈knownL)) σ):cmpPT .In (.str (S u)) (.lst a) QB σ:=c_inL h (by decide) hu q
theorem p_listG {P:PT V} (q:P (fun v σ₁=>StrGo (fun x σ₁=>(escV x).length≤100000∧ ∀l,σ₁.lists l=none→Q (.lst l) (setL σ₁ l (escV x))) [v] σ₁) σ):ptListG P Q σ:=q
theorem sl_lst_to {a:Addr} {xs:List V} {p:Nat} (h:σ.lists a=some xs) (hz:xs.length≤sizeLine) (hp:p≤xs.length) (hq: ∀c,σ.lists c=none→Q (.lst c) (setL σ c (xs.take p))):slPT (.lst a) .none (.int (p:Int)) Q σ:=by
 refine .lst (lo:=none) (hi:=some (p:Int)) rfl rfl h hz fun c hc=>?_
 have:cut xs none (some (p:Int))=xs.take p:=by
  unfold cut
  rw[kms_hi_nat hp]
  unfold kms_lo;simp
 rw[this];exact hq c hc
noncomputable def dueN (x y:Nat):List Nat:=[x-32,y-32,x,y]
noncomputable def lookE (n:Nat):Option Int:=[1,9,9,9,0, -1,0][n]?
structure EntOk (w:List Nat) (x y:Nat) (e:Int):Prop where
 lo:Txt.lower (S (bareN x y [] w))=S ((bareN x y [] w).map low)
 sub:lev w ((bareN x y [] w).map low) 8=8
 one: ∀b,5≤b→b≤7→lookE (lev (dueN x y) (bareN x y [] w) b)=some e∧lookE (lev (bareN x y [] w) (dueN x y) b)=some e
theorem bare_ok (x y:Nat): ∀(w seen:List Nat),(∀c∈w,c∈L4)→(∀c∈bareN x y seen w,okc c=true)∧(bareN x y seen w).length≤w.length
 |[],_,_=>⟨by simp[bareN],Nat.le_refl _⟩
 |l::w,seen,h=>by
  have ih:=bare_ok x y w (seen++[l]) fun c hc=>h c (List.mem_cons_of_mem _ hc)
  have e:bareN x y seen (l::w)=(if l∈[x,y] then [sg seen l] else [])++bareN x y (seen++[l]) w:=rfl
  rw[e]
  constructor
  ·intro c hc
   rcases List.mem_append.mp hc with hc|hc
   ·split at hc
    ·rw[List.mem_singleton.mp hc];exact (sg_ok (h l (by walk_at "s"))).2.1
    ·simp at hc
   ·exact ih.1 c hc
  ·rw[List.length_append,List.length_cons]
   have:(if l∈[x,y] then [sg seen l] else []).length≤1:=by split<;>simp
   lia
theorem low_ok {c:Nat} (h:okc c=true):okc (low c)=true:=by
 have:=okc_mem h
 simp only[List.mem_cons,List.not_mem_nil,or_false] at this
 rcases this with rfl|rfl|rfl|rfl|rfl|rfl|rfl|rfl<;>rfl
inductive T_entry (ds:List V) (Q:V→St→Prop) (σ:St):Prop
 |mk (w:List Nat) (st x y:Nat) (cell:Int) (num:Nat) (e:Int) (h1:ds=[.str (S (w++[st])),.str (S [x]),.str (S [y]),.int cell,.int (num:Int)]) (h2:w.length=8) (h3:(∀c∈w,c∈L4)) (h4:x∈L4) (h5:y∈L4) (h6:st∈stayL) (h7:EntOk w x y e) (h8: ∀σ',Ext σ σ'→Q (.int e) σ'):T_entry ds Q σ
theorem look_list {n:Nat} {e:Int} (h:lookE n=some e):[V.int 1,V.int 9,V.int 9,V.int 9,V.int 0,V.int (-1),V.int 0][n]? =some (V.int e):=by
 have:[V.int 1,V.int 9,V.int 9,V.int 9,V.int 0,V.int (-1),V.int 0]=([1,9,9,9,0, -1,0]:List Int).map V.int:=rfl
 rw[this,List.getElem?_map]
 unfold lookE at h
 rw[h];rfl
theorem look_lt {n:Nat} {e:Int} (h:lookE n=some e):n<7:=by
 unfold lookE at h
 exact (List.getElem?_eq_some_iff.mp h).1
theorem stay_ok: ∀st∈stayL,st≠92∧st≠34∧st<1114112∧[st]∉knownL:=by decide+kernel
theorem L4_okc: ∀x∈L4,okc x=true∧okc (x-32)=true:=by decide+kernel
theorem dueN_ok {x y:Nat} (hx:x∈L4) (hy:y∈L4): ∀c∈dueN x y,okc c=true:=List.forall_mem_cons.mpr ⟨(L4_okc x hx).2,List.forall_mem_cons.mpr ⟨(L4_okc y hy).2,List.forall_mem_cons.mpr ⟨(L4_okc x hx).1,List.forall_mem_cons.mpr ⟨(L4_okc y hy).1,nofun⟩⟩⟩⟩
noncomputable def kn (l:List (List Nat)):List (List Nat):=l.filter fun u=>decide (u∈knownL)
theorem kn_pos {u:List Nat} (c:u∈knownL) (l:List (List Nat)):kn (l++[u])=kn l++[u]:=(List.filter_append ..).trans (congrArg (kn l++ ·) (List.filter_cons_of_pos (decide_eq_true c)))
theorem kn_neg {u:List Nat} (c: ¬u∈knownL) (l:List (List Nat)):kn (l++[u])=kn l:=(List.filter_append ..).trans ((congrArg (kn l++ ·) (List.filter_cons_of_neg fun z=>c (of_decide_eq_true z))).trans (List.append_nil _))
theorem kn_len (l:List (List Nat)) (i:Nat):((kn (l.take i)).map sV).length≤i:=by
 rw[List.length_map];exact Nat.le_trans (List.length_filter_le ..) (List.length_take_le ..)
theorem tk_len {α:Type} (f:α→V) (l:List α) (i:Nat):((l.take i).map f).length≤i:=by
 rw[List.length_map];exact List.length_take_le ..
theorem kn_tail {st:Nat} (h:[st]∉knownL):kn [[34],[st],[92]]=[]:=by
 unfold kn
 rw[List.filter_cons_of_neg (by decide),List.filter_cons_of_neg (a:=[st]) (p:=fun u=>decide (u∈knownL)) (fun z=>h (of_decide_eq_true z)),List.filter_cons_of_neg (by decide)];rfl
noncomputable def EUk (u:List Nat):Prop:=u≠[]∧u.length≤2∧ ∀c∈u,c<1114112
theorem uok_eu {u:List Nat} (h:UOk u):EUk u:=by
 refine h.1.elim (fun g=>g.elim fun c g=>?_) fun g=>g.elim fun c g=>?_
 ·exact ⟨by rw[g.2];exact List.cons_ne_nil _ _,by rw[g.2];exact Nat.le_succ 1,h.2⟩
 ·exact ⟨by rw[g];exact List.cons_ne_nil _ _,by rw[g];exact Nat.le_refl 2,h.2⟩
inductive EntK (w:List Nat) (x y:Nat) (KK:List (List Nat)):Prop
 |mk (n:KK.length≤100) (ok: ∀u∈KK,EUk u) (kb:(kn KK).flatten=bareN x y [] w):EntK w x y KK
theorem ent_units {w:List Nat} {st x y:Nat} (hw:w.length=8) (hL: ∀c∈w,c∈L4) (hst:st∈stayL) (rs:List Nat):And4 (∀u∈tok x y [] w rs false++[[34],[st]],GoodU u) ((tok x y [] w rs false++[[34],[st]]).length≤1000) (escV (S (stripL ((tok x y [] w rs false++[[34],[st]]).flatten++[92]) (itemsU ((tok x y [] w rs false++[[34],[st]])++[[92]]) 0) 0 none []))=(itemsU (outU (tok x y [] w rs false) false++[[34],[st],[92]]) 0).map tupV) (EntK w x y (outU (tok x y [] w rs false) false++[[34],[st],[92]])):=by
 have hs:=stay_ok st hst
 have hFok:=tok_ok x y w [] rs false hL
 have hFsh:=tok_shut x y w [] rs false hL
 have hFb:=tok_bare x y w [] rs false hL
 have hFl:=tok_len x y w [] rs false
 generalize tok x y [] w rs false=FU at hFok hFsh hFb hFl⊢
 rw[hw] at hFl
 have h2: ∀u∈[[34],[st]],UOk u:=List.forall_mem_cons.mpr ⟨uok1 (by decide),List.forall_mem_cons.mpr ⟨uok1' hs.1 hs.2.2.1,nofun⟩⟩
 have hKg: ∀u∈outU FU false++[[34],[st]],UOk u:=fun u hu=>(List.mem_append.mp hu).elim (fun h=>hFok u (outU_mem FU false u h).1) (h2 u)
 have hKK:(outU FU false++[[34],[st]])++[[92]]=outU FU false++[[34],[st],[92]]:=List.append_assoc ..
 refine ⟨fun u hu=>((List.mem_append.mp hu).elim (hFok u) (h2 u)).1,?_,?_,?_,?_,?_⟩
 ·rw[List.length_append];exact Nat.le_trans (Nat.add_le_add_right hFl 2) (by decide)
 ·rw[strip_line (fun u hu=>(uok_eu (hFok u hu)).1) hFsh hs.2.1,←hKK]
  exact escs_units _ 0 fun u hu=>(hKg u hu).1
 ·rw[List.length_append];exact Nat.le_trans (Nat.add_le_add_right (Nat.le_trans (outU_len FU false) hFl) 3) (by decide)
 ·rw[←hKK]
  exact fun u hu=>(List.mem_append.mp hu).elim (fun h=>uok_eu (hKg u h)) fun h=>by rw[List.mem_singleton.mp h];exact ⟨List.cons_ne_nil _ _,Nat.le_succ 1,List.forall_mem_cons.mpr ⟨by decide,nofun⟩⟩
 ·exact (congrArg List.flatten (List.filter_append ..)).trans (by rw[List.flatten_append,hFb];exact (congrArg (fun l:List (List Nat)=>bareN x y [] w++l.flatten) (kn_tail hs.2.2.2)).trans (List.append_nil _))
theorem flat_two: ∀l:List (List Nat),(∀u∈l,EUk u)→l.flatten.length≤2*l.length
 |[],_=>Nat.le_refl _
 |u::l,h=>by
  rw[List.flatten_cons,List.length_append,Nat.add_comm]
  exact Nat.add_le_add (flat_two l fun v hv=>h v (List.mem_cons_of_mem _ hv)) (h u List.mem_cons_self).2.1
theorem EntK.at {w:List Nat} {x y i:Nat} {KK:List (List Nat)} {u:List Nat} (h:EntK w x y KK) (hu:KK[i]? =some u):And4 ((itemsU KK 0).take (i+1)=(itemsU KK 0).take i++[(0+(KK.take (i+1)).flatten.length-1,u)]) (0<(KK.take (i+1)).flatten.length) ((KK.take (i+1)).flatten.length≤16777216) (((KK.take (i+1)).map (·.length)).sum≤16777216):=by
 refine h.casesOn fun n ok _=>?_
 have hl:(KK.take (i+1)).flatten.length≤16777216:=Nat.le_trans (flat_two _ fun v hv=>ok v (List.mem_of_mem_take hv)) (Nat.le_trans (Nat.mul_le_mul_left 2 (Nat.le_trans (List.length_take_le' ..) n)) (by decide))
 refine ⟨by rw[List.take_add_one,items_get KK 0 i _ hu];rfl,?_,hl,by rw[←List.length_flatten];exact hl⟩
 rw[List.take_add_one,hu,List.flatten_append,List.length_append]
 exact Nat.lt_of_lt_of_le (List.length_pos_iff.mpr (by exact fun z=>(ok u (List.mem_of_getElem? hu)).1 ((List.append_nil u).symm.trans z))) (Nat.le_add_left _ _)
theorem items_at {KK:List (List Nat)} {i:Nat} {v:V} (h:((itemsU KK 0).map tupV)[i]? =some v): ∃n u,v= .tup [.int ((n:Nat):Int),.str (S u)]∧KK.take (i+1)=KK.take i++[u]∧u∈KK∧i<KK.length:=by
 have hi:i<KK.length:=by
  have:=(List.getElem?_eq_some_iff.mp h).1
  rw[List.length_map,items_len] at this;exact this
 rw[List.getElem?_map,items_get KK 0 i _ (List.getElem?_eq_getElem hi)] at h
 cases h
 exact ⟨_,_,rfl,by rw[List.take_add_one,List.getElem?_eq_getElem hi];rfl,List.getElem_mem hi,hi⟩
theorem known_lits:[V.str (Str.ofString "f"),V.str (Str.ofString "i"),V.str (Str.ofString "s"),V.str (Str.ofString "t"),V.str (Str.ofString "F"),V.str (Str.ofString "I"),V.str (Str.ofString "S"),V.str (Str.ofString "T")]=knownL.map sV:=by
 rw[show Str.ofString "f" =S [102] by kernel_rfl,show Str.ofString "i" =S [105] by kernel_rfl,show Str.ofString "s" =S [115] by kernel_rfl,show Str.ofString "t" =S [116] by kernel_rfl,show Str.ofString "F" =S [70] by kernel_rfl,show Str.ofString "I" =S [73] by kernel_rfl,show Str.ofString "S" =S [83] by kernel_rfl,show Str.ofString "T" =S [84] by kernel_rfl];rfl
theorem sub_one {n:Nat} (h:0<n):(n:Int)-1=((0+n-1:Nat):Int):=by rw[Nat.zero_add];exact sub_int h
inductive EnA (w:List Nat) (st x y:Nat) (cell:Int) (num:Nat) (KK:List (List Nat)) (D U:Addr) (σ τ:St):Prop
 |mk (v0:τ.vars 0=some (.str (S (w++[st])))) (v1:τ.vars 1=some (.str (S [x]))) (v2:τ.vars 2=some (.str (S [y]))) (v3:τ.vars 3=some (.int cell)) (v4:τ.vars 4=some (.int (num:Int))) (v6:τ.vars 6=some (.lst D)) (v7:τ.vars 7=some (.lst U)) (lD:τ.lists D=some (KK.map sV)) (lU:τ.lists U=some ((itemsU KK 0).map tupV)) (le:LE σ τ):EnA w st x y cell num KK D U σ τ
inductive EnB (w:List Nat) (st x y:Nat) (cell:Int) (num:Nat) (N:List Nat) (σ τ:St):Prop
 |mk (v0:τ.vars 0=some (.str (S (w++[st])))) (v1:τ.vars 1=some (.str (S [x]))) (v2:τ.vars 2=some (.str (S [y]))) (v3:τ.vars 3=some (.int cell)) (v4:τ.vars 4=some (.int (num:Int))) (v9:τ.vars 9=some (.str (S N))) (le:LE σ τ):EnB w st x y cell num N σ τ
inductive EntC (D U:Addr) (KK:List (List Nat)) (σ:St) (B:Addr) (i:Nat) (ys:List V) (σc:St):Prop
 |mk (h1:σc.vars 3=some (.lst D)) (h2:σc.lists B=some ys) (h3:σc.lists D=some (KK.map sV)) (h4:σc.lists U=some ((itemsU KK 0).map tupV)) (h5:ys=((itemsU KK 0).take i).map tupV) (h6:LE σ σc):EntC D U KK σ B i ys σc
inductive EntD (Kn U:Addr) (KK:List (List Nat)) (σ:St) (B2:Addr) (i:Nat) (ys:List V) (σc':St):Prop
 |mk (h1:σc'.vars 3=some (.lst Kn)) (h2:σc'.lists B2=some ys) (h3:σc'.lists Kn=some (knownL.map sV)) (h4:σc'.lists U=some ((itemsU KK 0).map tupV)) (h5:ys=(kn (KK.take i)).map sV) (h6:LE σ σc'):EntD Kn U KK σ B2 i ys σc'
theorem small_ys {n i m:Nat} (h:n≤i) (hi:i<m) (hm:m≤100):n+1≤sizeLine:=Nat.le_trans (Nat.succ_le_of_lt (Nat.lt_of_le_of_lt h hi)) (Nat.le_trans hm (Nat.le_of_ble_eq_true rfl))
theorem con_entry (W:Wk C) (h1:FnSound C (k+4) W.a__law_line T_line) (h2:FnSound C (k+4) W.a__levenshtein_distance T_lev) (h3:FnSound C (k+4) W.a__strip_quoted_realnames T_strip) (hG:C.gOk=AllBare) (ds:List V) (Q:V→St→Prop) (σ:St) (t:T_entry ds Q σ):fnCon 5 (W_law_entry (k:=k) W h1 h2 h3 hG).1 ds Q σ:=by
 refine t.casesOn fun w st x y cell num e hds hw hL hx hy hst hE q=>?_
 rw[hds]
 clear t hds ds
 refine fn_con rfl ?_
 unfold W_law_entry
 dsimp only
 rw[str_nil]
 generalize hT1:(ptSeq (ptIf (ptCmp CmpOp.NotEq (ptVar 7) _) _ _) _:PT Fl)=T1
 repeat walk_at "mine"
 refine o_addS (Nat.le_of_ble_eq_true rfl) ?_
 repeat walk_at "mine"
 refine ⟨w,st,x,y,cell,rfl,hw,hL,fun σ1 D rs x1 _ hlD=>?_⟩
 have eu:=ent_units (x:=x) (y:=y) hw hL hst rs
 generalize tok x y [] w rs false=FU at eu hlD⊢
 refine eu.casesOn fun hgood hgl hesc hK=>?_
 clear eu
 repeat walk_at "mine"
 refine p_listG ?_
 repeat walk_at "mine"
 refine ⟨FU++[[34],[st]],?_,hgood,List.mem_append_right _ List.mem_cons_self,hgl,fun σ2 x2=>?_⟩
 ·rw[List.flatten_append,List.append_assoc];rfl
 have hD2:=x2.lists D _ hlD
 have le:LE σ σ2:=fun b xs e=>x2.lists b xs (x1.lists b xs e)
 clear x1 x2 hlD hgood hgl
 generalize outU FU false++[[34],[st],[92]]=KK at hesc hK hD2
 refine hK.casesOn fun hn hok hKb=>?_
 refine ⟨_,rfl,rfl,by rw[hesc,List.length_map,items_len];exact Nat.le_trans hn (by decide),fun U hU=>?_⟩
 rw[hesc]
 clear hesc
 replace hU:σ2.lists U=none:=hU
 repeat walk_at "mine"
 have fin1: ∀τ:St,EnA w st x y cell num KK D U σ τ→T1 (fnK Q σ) τ:=by
  clear hD2 le hU
  intro τ A
  refine A.casesOn fun a0 a1 a2 a3 a4 a6 a7 aD aU le=>?_
  clear A
  rw[←hT1]
  generalize hT2:(ptSeq (ptAsgs [atName 10] _) _:PT Fl)=T2
  have hb:=bare_ok x y w [] hL
  have hbl:(bareN x y [] w).length≤100:=Nat.le_trans hb.2 (hw▸Nat.le_of_ble_eq_true rfl)
  have fin2: ∀τ:St,EnB w st x y cell num (bareN x y [] w) σ τ→T2 (fnK Q σ) τ:=by
   clear a0 a1 a2 a3 a4 a6 a7 aD aU le hT1 hK hn hok hKb
   intro τ B
   refine hE.casesOn fun elo esub eone=>?_
   replace hb:=hb.1
   generalize bareN x y [] w=N at B hb hbl elo esub eone
   refine B.casesOn fun a0 a1 a2 a3 a4 a9 le=>?_
   clear B hE
   rw[←hT2]
   generalize hT3:(ptSeq (ptIf (ptAll _ _) _ _) _:PT Fl)=T3
   repeat walk_at "mine"
   refine m_upper (Nat.le_of_ble_eq_true rfl) ?_
   rw[(mc5' hx).2.1]
   repeat walk_at "mine"
   refine m_upper (Nat.le_of_ble_eq_true rfl) ?_
   rw[(mc5' hy).2.1]
   refine o_addS (Nat.le_of_ble_eq_true rfl) ?_
   repeat walk_at "mine"
   refine o_addS (Nat.le_of_ble_eq_true rfl) ?_
   repeat walk_at "mine"
   refine o_addS (Nat.le_of_ble_eq_true rfl) ?_
   rw[show [x-32]++[y-32]++[x]++[y]=dueN x y from rfl]
   have hdo:=dueN_ok hx hy
   have hdl:(dueN x y).length≤100:=Nat.le_of_ble_eq_true rfl
   generalize dueN x y=Du at hdo hdl eone⊢
   repeat walk_at "mine"
   have b:=fmod_lt (x:=cell.fdiv 1048576) (s:=3) (by decide)
   generalize ((cell.fdiv 1048576).fmod ((3:Nat):Int)).toNat=bd at b
   refine o_div (by decide) (by decide) ?_
   repeat walk_at "mine"
   refine o_modE b.2 (by decide) ?_
   refine o_addE (c:=((5+bd:Nat):Int)) rfl ?_
   repeat walk_at "mine"
   replace eone:=eone (5+bd) (Nat.le_add_right 5 bd) (Nat.add_le_add_left (Nat.le_of_lt_succ b.1) 5)
   rw[←hT3]
   generalize hT4:(ptSeq (ptIf (ptCmp CmpOp.Eq (ptBin Operator.Mod _ _) _) _ _) _:PT Fl)=T4
   have fin3: ∀τ:St,τ.vars 4=some (.int (num:Int))→τ.vars 9=some (.str (S N))→τ.vars 10=some (.str (S Du))→τ.vars 11=some (.int ((5+bd:Nat):Int))→LE σ τ→T4 (fnK Q σ) τ:=by
    clear a0 a1 a2 a3 a4 a9 le hT2 hT3 b
    intro τ a4 a9 a10 a11 le
    rw[←hT4]
    repeat walk_at "mine"
    refine o_modE (n_fmod num 2) (by decide) ?_
    repeat walk_at "mine"
    by_cases c:num%2=1
    ·refine c_eqT (congrArg Int.ofNat c) ?_
     repeat walk_at "mine"
     refine u_neg rfl ?_
     repeat walk_at "mine"
     refine ⟨Nat.le_of_ble_eq_true rfl,fun E hE=>?_⟩
     replace hE:τ.lists E=none:=hE
     repeat walk_at "mine"
     refine ⟨Du,N,5+bd,rfl,hdl,hbl,hdo,hb,fun σ' x'=>?_⟩
     refine it_lst (x'.lists E _ setL_get) (look_list eone.1) (idx63 (look_lt eone.1) (by decide)) ?_
     repeat walk_at "mine"
     exact q _ (LE.ext (LE.trans (le.setL (le.none hE)) fun b xs e=>x'.lists b xs e))
    ·refine c_eqF (fun z=>c (Int.ofNat.inj z)) ?_
     repeat walk_at "mine"
     refine u_neg rfl ?_
     repeat walk_at "mine"
     refine ⟨Nat.le_of_ble_eq_true rfl,fun E hE=>?_⟩
     replace hE:τ.lists E=none:=hE
     repeat walk_at "mine"
     refine ⟨N,Du,5+bd,rfl,hbl,hdl,hb,hdo,fun σ' x'=>?_⟩
     refine it_lst (x'.lists E _ setL_get) (look_list eone.2) (idx63 (look_lt eone.2) (by decide)) ?_
     repeat walk_at "mine"
     exact q _ (LE.ext (LE.trans (le.setL (le.none hE)) fun b xs e=>x'.lists b xs e))
   repeat walk_at "mine"
   refine o_div (by decide) (by decide) ?_
   repeat walk_at "mine"
   refine o_mod (by decide) ?_
   repeat walk_at "mine"
   by_cases c:(num:Int)=(cell.fdiv 3145728).fmod 6
   ·refine c_eqT c ?_
    repeat walk_at "mine"
    refine sl_to (p:=8) (by rw[List.length_append,hw];exact Nat.le_succ 8) (by rw[List.length_append,hw];exact Nat.le_of_ble_eq_true rfl) ?_
    rw[show List.take 8 (w++[st])=w by rw[←hw];exact List.take_left]
    repeat walk_at "mine"
    refine m_lower (Nat.le_trans (Nat.le_of_eq (S_len _)) (Nat.le_trans hbl (by decide))) ?_
    rw[elo]
    repeat walk_at "mine"
    refine ⟨w,N.map low,8,rfl,hw▸Nat.le_of_ble_eq_true rfl,by rw[List.length_map];exact hbl,fun c hc=>(L4_okc c (hL c hc)).1,fun c hc=>(List.mem_map.mp hc).elim fun d hd=>hd.2▸low_ok (hb d hd.1),fun σ' x'=>?_⟩
    rw[esub]
    repeat walk_at "mine"
    refine c_neiF rfl ?_
    repeat walk_at "mine"
    exact fin3 _ a4 a9 rfl rfl (LE.trans le fun b xs e=>x'.lists b xs e)
   ·refine c_eqF c ?_
    repeat walk_at "mine"
    exact fin3 _ a4 a9 rfl rfl le
  clear q hE hT2
  repeat walk_at "mine"
  refine p_len aD (by rw[List.length_map];exact Nat.le_trans hn (Nat.le_of_ble_eq_true rfl)) ?_
  rw[List.length_map]
  repeat walk_at "mine"
  refine p_rg1 (n:=KK.length) rfl (Nat.le_trans hn (by decide)) ?_
  refine CompGo.mk (EntC D U KK σ) ?_ ?_ ?_ ?_
  ·intro B hB
   exact ⟨a6,if_pos rfl,(if_neg (lk_ne hB aD)).trans aD,(if_neg (lk_ne hB aU)).trans aU,rfl,le.setL (le.none hB)⟩
  ·exact fun B i ys σc _ _ h=>h.casesOn fun _ h1 _ _ _ _=>⟨h1,trivial⟩
  ·intro B i ys v σc hB hx' h
   refine h.casesOn fun h0 h1 h2 h3 h4 h5=>?_
   have hi:=range_int hx'
   rw[hi.2]
   replace hi:=hi.1
   refine Exists.elim (⟨_,List.getElem?_eq_getElem hi⟩: ∃u,KK[i]? =some u) fun u hu=>?_
   refine (hK.at hu).casesOn fun k1 k2 k3 k4=>?_
   have hBD:=lk_ne hB aD
   have hBU:=lk_ne hB aU
   have hB0:=le.none hB
   clear h hx' fin2 hB a0 a1 a2 a3 a4 a6 a7 aD aU le hb hbl hT1 hK hok hKb
   repeat walk_at "mine"
   refine o_addE (c:=((i+1:Nat):Int)) rfl ?_
   refine sl_lst_to (p:=i+1) h2 (by rw[List.length_map];exact Nat.le_trans hn (Nat.le_of_ble_eq_true rfl)) (by rw[List.length_map];exact hi) fun E hE'=>?_
   replace hE':σc.lists E=none:=hE'
   repeat walk_at "mine"
   refine m_join (ls:=KK.take (i+1)) (setL_get.trans (by rw[←List.map_take,List.map_map];rfl)) k4 ?_
   repeat walk_at "mine"
   refine bi_lenS k3 ?_
   repeat walk_at "mine"
   refine o_subE (sub_one k2) ?_
   repeat walk_at "mine"
   refine it_lst (i:=i) (y:=sV u) ((setL_other (lk_ne hE' h2)).trans h2) (by rw[List.getElem?_map,hu];rfl) (idx63 (Nat.lt_of_lt_of_le hi hn) (by decide)) ?_
   repeat walk_at "mine"
   refine ⟨Nat.le_of_ble_eq_true rfl,(setL_other (lk_ne hE' h1)).trans h1,small_ys (h4▸tk_len _ _ i) hi hn,h0,setL_get,(setL_other hBD).trans ((setL_other (lk_ne hE' h2)).trans h2),(setL_other hBU).trans ((setL_other (lk_ne hE' h3)).trans h3),?_,(h5.setL (h5.none hE')).setL hB0⟩
   rw[k1,List.map_append,h4];rfl
  ·intro B ys σc hB h
   refine h.casesOn fun h0 h1 h2 h3 h4 h5=>?_
   rw[List.length_map,List.length_range,←items_len KK 0,List.take_length] at h4
   rw[h4] at h1
   refine c_neSame h3 h1 (fun p hp=>(hok p.2 (items_snd KK 0 p hp)).2.2) ?_
   clear h h1 h2 h4 hB hT1 a6 aD aU le
   repeat walk_at "mine"
   refine ⟨Nat.le_of_ble_eq_true rfl,fun Kn hKn=>?_⟩
   replace hKn:σc.lists Kn=none:=hKn
   rw[known_lits]
   repeat walk_at "mine"
   refine ⟨U,(itemsU KK 0).map tupV,rfl,(setL_other (lk_ne hKn h3)).trans h3,?_⟩
   refine CompGo.mk (EntD Kn U KK σ) ?_ ?_ ?_ ?_
   ·intro B2 hB2
    have hf:=fresh hB2
    exact ⟨rfl,if_pos rfl,(if_neg (Ne.symm hf.1)).trans setL_get,(if_neg (lk_ne hf.2 h3)).trans ((setL_other (lk_ne hKn h3)).trans h3),rfl,(h5.setL (h5.none hKn)).setL (h5.none hf.2)⟩
   ·exact fun B2 i ys σc' _ _ h=>h.casesOn fun _ g1 _ g3 _ _=>⟨g1,g3⟩
   ·intro B2 i ys v σc' hB2 hx' h
    refine h.casesOn fun g0 g1 g2 g3 g4 g5=>?_
    refine (items_at hx').elim fun n hu=>hu.elim fun u hu=>?_
    rw[hu.1]
    have hBK:=Ne.symm (fresh hB2).1
    replace hB2:σc.lists B2=none:=(fresh hB2).2
    have hBU:=lk_ne hB2 h3
    have hB0:=h5.none hB2
    have huo:=(hok u hu.2.2.1).2.2
    clear h hx' fin2 hB2 a0 a1 a2 a3 a4 hb hbl hK hok hKb h3 h5 hKn
    repeat walk_at "mine"
    refine c_inK g2 huo ?_
    by_cases c:u∈knownL
    ·rw[decide_eq_true c]
     repeat walk_at "mine"
     refine ⟨g1,small_ys (g4▸kn_len _ i) hu.2.2.2 hn,g0,setL_get,(setL_other hBK).trans g2,(setL_other hBU).trans g3,?_,g5.setL hB0⟩
     rw[hu.2.1,kn_pos c,List.map_append,g4];rfl
    ·rw[decide_eq_false c]
     repeat walk_at "mine"
     exact ⟨g0,g1,g2,g3,by rw[hu.2.1,kn_neg c];exact g4,g5⟩
   ·intro B2 ys σc' hB2 h
    refine h.casesOn fun g0 g1 g2 g3 g4 g5=>?_
    rw[List.length_map,items_len,List.take_length] at g4
    clear h hB2 g0 g2 g3
    repeat walk_at "mine"
    refine m_join (ls:=kn KK) (g1.trans (by rw[g4,List.map_map];rfl)) (by rw[←List.length_flatten,hKb];exact Nat.le_trans hbl (by decide)) ?_
    rw[hKb]
    repeat walk_at "mine"
    exact fin2 _ ⟨a0,a1,a2,a3,a4,rfl,g5⟩
 exact fin1 _ ⟨rfl,rfl,rfl,rfl,rfl,rfl,rfl,(setL_other (lk_ne hU hD2)).trans hD2,setL_get,le.setL (le.none hU)⟩
theorem entry_sound (W:Wk C) (hG:C.gOk=AllBare):FnSound C 6 W.a__law_entry T_entry:=
 FnSound.weak (fnAt_sound (m:=5) W W.f__law_entry (W_law_entry (k:=1) W ((line_sound W).le (by decide)) ((lev_sound W).le (by decide)) (strip_sound W hG) hG).2 (fun pm cd doc vs h=>by
    obtain ⟨a,b,c,d,e,rfl⟩:=bind5 h
    rfl) (by kernel_rfl)) fun ds Q σ t=>con_entry W _ _ _ hG ds Q σ t
end
end
section
open PySem PySem.Spec PySem.Calls PyProof.Rows PySem.W
section
variable {C:Ctx} {k:Nat} {σ:St} {Q:V→St→Prop} {QB:Bool→St→Prop}
theorem c_inC {a:Addr} {c:Nat} {kl:List Nat} (h:σ.lists a=some (kl.map chV)) (hk: ∀c∈kl,c<1114112) (hc:c<1114112) (q:QB (decide (c∈kl)) σ):cmpPT .In (.str (S [c])) (.lst a) QB σ:=by
 refine c_inL (L:=kl.map fun c=>[c]) (h.trans (by rw[List.map_map];rfl)) (fun u hu d hd=>?_) (fun d hd=>List.mem_singleton.mp hd▸hc) ?_
 ·exact (List.mem_map.mp hu).elim fun z hz=>List.mem_singleton.mp (hz.2▸hd)▸hk z hz.1
 ·rw[show decide ([c]∈kl.map fun c=>[c])=decide (c∈kl) from decide_eq_decide.mpr ⟨fun h=>(List.mem_map.mp h).elim fun z hz=>List.singleton_inj.mp hz.2▸hz.1,fun h=>List.mem_map.mpr ⟨c,h,rfl⟩⟩]
  exact q
noncomputable def ringRun (turn:List Nat):Nat→List Nat→Nat→List Nat
 |0,seen,_=>seen
 |f+1,seen,p=>if seen.getD p 1=0 then ringRun turn f (seen.set p 1) (turn.getD ((p+1)%8) 0) else seen
noncomputable def ringsL (turn:List Nat):List Nat→List Nat→Nat→Nat
 |[],_,r=>r
 |s::ss,seen,r=>if seen.getD s 1=0 then ringsL turn ss (ringRun turn 8 seen s) (r+1) else ringsL turn ss seen r
noncomputable def turnN (w mates kl:List Nat):List Nat:=(List.range 8).map fun p=>if w.getD p 0∈kl then mates.getD p 0 else p
noncomputable def ringsN (w mates kl:List Nat):Nat:=ringsL (turnN w mates kl) [0,1,2,3,4,5,6,7] [0,0,0,0,0,0,0,0] 0
noncomputable def zeros:List Nat→Nat
 |[]=>0
 |x::r=>(if x=0 then 1 else 0)+zeros r
theorem zeros_le: ∀l:List Nat,zeros l≤l.length
 |[]=>Nat.le_refl _
 |x::r=>by
  have:=zeros_le r
  show (if x=0 then 1 else 0)+zeros r≤r.length+1
  split<;>lia
theorem zeros_set: ∀(l:List Nat) (p:Nat),l[p]? =some 0→zeros (l.set p 1)+1=zeros l
 |x::r,0,h=>by
  cases h
  show (if 1=0 then 1 else 0)+zeros r+1=(if 0=0 then 1 else 0)+zeros r
  rw[if_neg (by decide),if_pos rfl];lia
 |x::r,p+1,h=>by
  have:=zeros_set r p h
  show (if x=0 then 1 else 0)+zeros (r.set p 1)+1=(if x=0 then 1 else 0)+zeros r
  lia
theorem nints_getD {l:List Nat} {i d:Nat} (h:i<l.length):(nints l)[i]? =some (V.int ((l.getD i d:Nat):Int)):=by
 rw[nints_get h,List.getD_eq_getElem?_getD,List.getElem?_eq_getElem h];rfl
inductive T_rings (ds:List V) (Q:V→St→Prop) (σ:St):Prop
 |mk (w:List Nat) (st:Nat) (M K:Addr) (mates kl:List Nat) (h1:ds=[.str (S (w++[st])),.lst M,.lst K]) (h2:w.length=8) (h3:(∀c∈w,c<1114112)) (h4:σ.lists M=some (nints mates)) (h5:mates.length=8) (h6:(∀x∈mates,x<8)) (h7:σ.lists K=some (kl.map chV)) (h8:(∀c∈kl,c<1114112)) (h9:kl.length≤100) (h10: ∀σ',Ext σ σ'→Q (.int ((ringsN w mates kl:Nat):Int)) σ'):T_rings ds Q σ
inductive RgC (w:List Nat) (st:Nat) (M K:Addr) (mates kl:List Nat) (σ:St) (B:Addr) (i:Nat) (ys:List V) (σc:St):Prop
 |mk (h1:σc.vars 2=some (.lst K)) (h2:σc.vars 3=some (.lst M)) (h3:σc.vars 4=some (.str (S (w++[st])))) (h4:σc.lists B=some ys) (h5:σc.lists M=some (nints mates)) (h6:σc.lists K=some (kl.map chV)) (h7:ys=nints ((turnN w mates kl).take i)) (h8:LE σ σc):RgC w st M K mates kl σ B i ys σc
inductive RgJ (B Sn:Addr) (turn:List Nat) (σ:St) (FIN:Nat) (i:Nat) (τ:St):Prop
 |mk (seen:List Nat) (r:Nat) (h1:τ.vars 4=some (.lst B)) (h2:τ.vars 5=some (.lst Sn)) (h3:τ.vars 6=some (.int (r:Int))) (h4:τ.lists B=some (nints turn)) (h5:τ.lists Sn=some (nints seen)) (h6:LE σ τ) (h7:seen.length=8) (h8:ringsL turn ([0,1,2,3,4,5,6,7].drop i) seen r=FIN):RgJ B Sn turn σ FIN i τ
inductive RgK (B Sn:Addr) (turn:List Nat) (σ:St) (r:Nat) (R:List Nat) (n:Nat) (τ:St):Prop
 |mk (sn:List Nat) (p:Nat) (h1:τ.vars 3=some (.int (p:Int))) (h2:τ.vars 4=some (.lst B)) (h3:τ.vars 5=some (.lst Sn)) (h4:τ.vars 6=some (.int ((r+1:Nat):Int))) (h5:τ.lists B=some (nints turn)) (h6:τ.lists Sn=some (nints sn)) (h7:LE σ τ) (h8:sn.length=8) (h9:p<8) (h10:zeros sn≤n) (h11:ringRun turn n sn p=R):RgK B Sn turn σ r R n τ
theorem con_rings (W:Wk C) (ds:List V) (Q:V→St→Prop) (σ:St) (t:T_rings ds Q σ):fnCon 3 (W_law_rings (k:=k) W).1 ds Q σ:=by
 obtain ⟨w,st,M,K,mates,kl,rfl,hw,hwl,kM,hml,hm8,kK,hkl,hkn,q⟩:=t
 refine fn_con rfl ?_
 unfold W_law_rings
 dsimp only
 have hz:10000≤sizeLine:=Nat.le_of_ble_eq_true rfl
 generalize hT:(ptSeq (ptAsgs [atName 5] _) _:PT Fl)=T
 repeat walk_at "mine"
 refine p_rg1 (n:=8) rfl (by walk_at "a") ?_
 have htl:(turnN w mates kl).length=8:=by unfold turnN;simp
 have ht8: ∀x∈turnN w mates kl,x<8:=by
  intro x hx
  unfold turnN at hx
  obtain ⟨p,hp,rfl⟩:=List.mem_map.mp hx
  have hp8:=List.mem_range.mp hp
  split
  ·rw[List.getD_eq_getElem?_getD,List.getElem?_eq_getElem (by walk_at "a")]
   exact hm8 _ (List.getElem_mem _)
  ·exact hp8
 refine CompGo.mk (RgC w st M K mates kl σ) ?_ ?_ ?_ ?_
 ·intro B hB
  replace hB:σ.lists B=none:=hB
  have hBM:M≠B:=fun z=>by rw[←z,kM] at hB;cases hB
  have hBK:K≠B:=fun z=>by rw[←z,kK] at hB;cases hB
  refine ⟨rfl,rfl,rfl,if_pos rfl,(if_neg hBM).trans kM,(if_neg hBK).trans kK,rfl,fun b xs e=>(if_neg (fun z=>?_)).trans e⟩
  rw[z,hB] at e;cases e
 ·rintro B i ys σc _ _ ⟨_,_,_,h,_⟩;exact ⟨h,trivial⟩
 ·rintro B i ys v σc hB hx ⟨v2,v3,v4,cB,cM,cK,hy,le⟩
  replace hB:σ.lists B=none:=hB
  have hBM:M≠B:=fun z=>by rw[←z,kM] at hB;cases hB
  have hBK:K≠B:=fun z=>by rw[←z,kK] at hB;cases hB
  obtain ⟨hi,rfl⟩:=range_int hx
  have hiw:i<w.length:=by walk_at "a"
  have hget:(w++[st])[i]? =some (w.getD i 0):=by rw[List.getElem?_append_left hiw,List.getElem?_eq_getElem hiw,List.getD_eq_getElem?_getD,List.getElem?_eq_getElem hiw];rfl
  have hwi:w.getD i 0<1114112:=by
   rw[List.getD_eq_getElem?_getD,List.getElem?_eq_getElem hiw];exact hwl _ (List.getElem_mem hiw)
  have hti:(turnN w mates kl).take (i+1)=(turnN w mates kl).take i++[if w.getD i 0∈kl then mates.getD i 0 else i]:=by
   rw[List.take_add_one]
   congr 1
   unfold turnN
   rw[List.getElem?_map,List.getElem?_range hi];rfl
  have hyl:ys.length≤i:=by rw[hy,nints_len,List.length_take];lia
  repeat walk_at "mine"
  refine it_str hget (by simp;lia) ?_
  repeat walk_at "mine"
  refine c_inC cK hkl hwi ?_
  by_cases c:w.getD i 0∈kl
  ·rw[decide_eq_true c]
   rw[if_pos c] at hti
   repeat walk_at "mine"
   refine it_lst (i:=i) cM (nints_getD (d:=0) (by walk_at "a")) (by walk_at "a") ?_
   refine ⟨cB,by walk_at "a",v2,v3,v4,setL_get,(setL_other hBM).trans cM,(setL_other hBK).trans cK,?_,le.setL hB⟩
   rw[hti,nints_app,hy];rfl
  ·rw[decide_eq_false c]
   rw[if_neg c] at hti
   repeat walk_at "mine"
   refine ⟨cB,by walk_at "a",v2,v3,v4,setL_get,(setL_other hBM).trans cM,(setL_other hBK).trans cK,?_,le.setL hB⟩
   rw[hti,nints_app,hy];rfl
 ·rintro B ys σc hB ⟨v2,v3,v4,cB,cM,cK,hy,le⟩
  replace hB:σ.lists B=none:=hB
  rw[List.length_map,List.length_range,←htl,List.take_length] at hy
  subst hy
  have hfin:ringsL (turnN w mates kl) [0,1,2,3,4,5,6,7] [0,0,0,0,0,0,0,0] 0=ringsN w mates kl:=rfl
  generalize ringsN w mates kl=FIN at*
  generalize turnN w mates kl=turn at*
  rw[←hT]
  repeat walk_at "mine"
  refine ⟨Nat.le_of_ble_eq_true rfl,fun Sn hSn=>?_⟩
  replace hSn:σc.lists Sn=none:=hSn
  have hSn0:=le.none hSn
  have hSB:B≠Sn:=fun z=>by rw[←z,cB] at hSn;cases hSn
  repeat walk_at "mine"
  refine p_rg1 (n:=8) rfl (by walk_at "a") ?_
  refine ForOk.mk (RgJ B Sn turn σ FIN) ?_ (fun _ _ _ _=>trivial) ?_ ?_
  ·exact ⟨[0,0,0,0,0,0,0,0],0,rfl,rfl,rfl,(setL_other hSB).trans cB,setL_get,le.setL hSn0,rfl,hfin⟩
  ·rintro i v τ hx ⟨seen,r,w4,w5,w6,kB,kS,le',hsl,e⟩
   obtain ⟨hi,rfl⟩:=range_int hx
   have hdr:[0,1,2,3,4,5,6,7].drop i=i::[0,1,2,3,4,5,6,7].drop (i+1):=by
    match i,hi with
    |0,_=>rfl
    |1,_=>rfl
    |2,_=>rfl
    |3,_=>rfl
    |4,_=>rfl
    |5,_=>rfl
    |6,_=>rfl
    |7,_=>rfl
   rw[hdr] at e
   unfold ringsL at e
   repeat walk_at "mine"
   refine it_lst (i:=i) kS (nints_getD (d:=1) (by walk_at "a")) (by walk_at "a") ?_
   repeat walk_at "mine"
   by_cases c:seen.getD i 1=0
   ·rw[if_pos c] at e
    refine c_eqT (by walk_at "a") ?_
    repeat walk_at "mine"
    refine i_add (c:=((r+1:Nat):Int)) (by walk_at "a") ?_
    repeat walk_at "mine"
    generalize hR:ringRun turn 8 seen i=R at*
    refine p_while (RgK B Sn turn σ r R) 8 ?_ ?_
    ·exact ⟨seen,i,rfl,w4,w5,rfl,kB,kS,le',hsl,hi,by have:=zeros_le seen;lia,hR⟩
    ·rintro n τ2 ⟨sn,p,u3,u4,u5,u6,tB,tS,le2,hsn,hp,hzn,hrn⟩
     repeat walk_at "mine"
     refine it_lst (i:=p) tS (nints_getD (d:=1) (by walk_at "a")) (by walk_at "a") ?_
     repeat walk_at "mine"
     by_cases c0:sn.getD p 1=0
     ·refine c_eqT (by walk_at "a") ?_
      have hg:sn[p]? =some 0:=by
       rw[List.getD_eq_getElem?_getD,List.getElem?_eq_getElem (by walk_at "a")] at c0
       rw[List.getElem?_eq_getElem (by walk_at "a")];exact congrArg some c0
      have hzs:=zeros_set sn p hg
      obtain ⟨m,rfl⟩: ∃m,n=m+1:=⟨n-1,by walk_at "a"⟩
      unfold ringRun at hrn
      rw[if_pos c0] at hrn
      repeat walk_at "mine"
      refine sit_lst tS (by rw[nints_len];lia) (by rw[nints_len];lia) ?_
      repeat walk_at "mine"
      refine o_addE (c:=((p+1:Nat):Int)) (by walk_at "a") ?_
      repeat walk_at "mine"
      refine o_modE (n_fmod (p+1) 8) (by decide) ?_
      have hq8:(p+1)%8<turn.length:=by rw[htl];exact Nat.mod_lt _ (by decide)
      refine it_lst (i:=(p+1)%8) ((setL_other hSB).trans tB) (nints_getD (d:=0) hq8) (by walk_at "a") ?_
      repeat walk_at "mine"
      refine ⟨m,by walk_at "a",sn.set p 1,turn.getD ((p+1)%8) 0,rfl,u4,u5,u6,(setL_other hSB).trans tB,?_,le2.setL hSn0,by rw[List.length_set];exact hsn,?_,by walk_at "a",hrn⟩
      ·refine setL_get.trans ?_
       unfold nints;rw[List.map_set];rfl
      ·rw[List.getD_eq_getElem?_getD,List.getElem?_eq_getElem hq8]
       exact ht8 _ (List.getElem_mem _)
     ·refine c_eqF (by walk_at "a") ?_
      repeat walk_at "mine"
      have:sn=R:=by
       rw[←hrn]
       cases n with
       |zero=>rfl
       |succ n=>unfold ringRun;rw[if_neg c0]
      subst this
      exact ⟨sn,r+1,u4,u5,u6,tB,tS,le2,hsn,e⟩
   ·rw[if_neg c] at e
    refine c_eqF (by walk_at "a") ?_
    repeat walk_at "mine"
    exact ⟨seen,r,w4,w5,w6,kB,kS,le',hsl,e⟩
  ·rintro τ ⟨seen,r,w4,w5,w6,kB,kS,le',hsl,e⟩
   rw[List.length_map,List.length_range] at e
   replace e:r=FIN:=e
   subst e
   repeat walk_at "mine"
   exact q _ le'.ext
theorem rings_sound (W:Wk C):FnSound C 1 W.a__law_rings T_rings:=
 FnSound.weak (fnAt_sound (m:=3) W W.f__law_rings (W_law_rings (k:=0) W).2 (fun pm cd doc vs h=>by
    obtain ⟨a,b,c,rfl⟩:=bind3 h
    rfl) (by kernel_rfl)) fun ds Q σ t=>con_rings W ds Q σ t
end
end
section
open PySem PySem.Spec PySem.Calls PyProof.Rows PySem.W
section
variable {C:Ctx} {k:Nat}
noncomputable def mateL (w:List Nat) (p:Nat):List Nat:=(List.range 8).filter fun q=>decide (q≠p)&&decide (w.getD q 0=w.getD p 0)
noncomputable def matesN (w:List Nat):List Nat:=(List.range 8).map fun p=>(mateL w p).headD 0
noncomputable def bitB (pl i:Nat):Bool:=decide (pl/2^(3-i)%2=1)
noncomputable def wp (wt:List Nat) (pl:Nat):Nat→Nat
 |0=>1
 |i+1=>if bitB pl i=true then wp wt pl i*wt.getD i 0 else wp wt pl i
noncomputable def kp (pl:Nat):Nat→List Nat
 |0=>[]
 |i+1=>if bitB pl i=true then kp pl i else kp pl i++[L4.getD i 0]
noncomputable def dueL (w wt:List Nat):List Nat:=(List.range 16).map fun pl=>if ringsN w (matesN w) (kp pl 4)=1 then wp wt pl 4 else 0
theorem wp_lt {wt:List Nat} (h: ∀x∈wt,x<2^100) (pl:Nat): ∀i,wp wt pl i<2^(100*i+1)
 |0=>by unfold wp;decide
 |i+1=>by
  have ih:=wp_lt h pl i
  unfold wp
  have e:2^(100*(i+1)+1)=2^(100*i+1)*2^100:=by rw[←Nat.pow_add];rfl
  split
  ·rw[e]
   have:wt.getD i 0<2^100:=by
    rw[List.getD_eq_getElem?_getD]
    by_cases c:i<wt.length
    ·rw[List.getElem?_eq_getElem c];exact h _ (List.getElem_mem c)
    ·rw[List.getElem?_eq_none (by walk_at "a")];exact Nat.two_pow_pos 100
   exact Nat.mul_lt_mul'' ih this
  ·rw[e]
   exact Nat.lt_of_lt_of_le ih (Nat.le_mul_of_pos_right _ (Nat.two_pow_pos 100))
theorem kp_ok (pl:Nat): ∀i,(∀c∈kp pl i,c<1114112)∧(kp pl i).length≤i
 |0=>by unfold kp;simp
 |i+1=>by
  have ih:=kp_ok pl i
  unfold kp
  split
  ·exact ⟨ih.1,by walk_at "a"⟩
  ·refine ⟨fun c hc=>?_,by rw[List.length_append,List.length_singleton];lia⟩
   rcases List.mem_append.mp hc with h|h
   ·exact ih.1 c h
   ·rw[List.mem_singleton.mp h,List.getD_eq_getElem?_getD]
    by_cases c:i<L4.length
    ·rw[List.getElem?_eq_getElem c]
     have:=L4_of (List.getElem_mem c);simp only[Option.getD_some];lia
    ·rw[List.getElem?_eq_none (by walk_at "a")];decide
theorem names4:[V.str (Str.ofString "f"),V.str (Str.ofString "i"),V.str (Str.ofString "s"),V.str (Str.ofString "t")]=L4.map chV:=chars4
theorem mates_ok (w:List Nat):(matesN w).length=8∧ ∀x∈matesN w,x<8:=by
 refine ⟨by unfold matesN;simp,fun x hx=>?_⟩
 unfold matesN at hx
 obtain ⟨p,_,rfl⟩:=List.mem_map.mp hx
 cases h:mateL w p with
 |nil=>exact Nat.zero_lt_succ 7
 |cons q r=>
  have:q∈mateL w p:=by rw[h];exact List.mem_cons_self
  unfold mateL at this
  exact List.mem_range.mp (List.mem_filter.mp this).1
inductive T_due (ds:List V) (Q:V→St→Prop) (σ:St):Prop
 |mk (w:List Nat) (st:Nat) (Wt:Addr) (wt:List Nat) (h1:ds=[.str (S (w++[st])),.lst Wt]) (h2:w.length=8) (h3:(∀c∈w,c<1114112)) (h4:σ.lists Wt=some (nints wt)) (h5:wt.length=4) (h6:(∀x∈wt,x<2^100)) (h7:(∀p,p<8→mateL w p≠[])) (h8: ∀σ' D,Ext σ σ'→σ.lists D=none→σ'.lists D=some (nints (dueL w wt))→Q (.lst D) σ'):T_due ds Q σ
inductive DuC (w:List Nat) (st:Nat) (Wt Nm:Addr) (wt:List Nat) (σ:St) (B:Addr) (i:Nat) (ys:List V) (σc:St):Prop
 |mk (h1:σc.vars 3=some (.str (S (w++[st])))) (h2:σc.lists B=some ys) (h3:σc.lists Wt=some (nints wt)) (h4:σc.lists Nm=some (L4.map chV)) (h5:ys=nints ((matesN w).take i)) (h6:LE σ σc):DuC w st Wt Nm wt σ B i ys σc
inductive DuD (w:List Nat) (st:Nat) (B Wt Nm:Addr) (wt:List Nat) (i:Nat) (ys:List V) (σ:St) (B2:Addr) (j:Nat) (zs:List V) (σd:St):Prop
 |mk (h1:σd.vars 2=some (.int (i:Int))) (h2:σd.vars 3=some (.str (S (w++[st])))) (h3:σd.lists B2=some zs) (h4:σd.lists B=some ys) (h5:σd.lists Wt=some (nints wt)) (h6:σd.lists Nm=some (L4.map chV)) (h7:zs=nints (((List.range 8).take j).filter fun q=>decide (q≠i)&&decide (w.getD q 0=w.getD i 0))) (h8:LE σ σd):DuD w st B Wt Nm wt i ys σ B2 j zs σd
inductive DuI (w:List Nat) (st:Nat) (B Wt Nm Du:Addr) (wt:List Nat) (σ:St) (pl:Nat) (τ:St):Prop
 |mk (h1:τ.vars 0=some (.str (S (w++[st])))) (h2:τ.vars 1=some (.lst Wt)) (h3:τ.vars 2=some (.lst Nm)) (h4:τ.vars 4=some (.lst B)) (h5:τ.vars 5=some (.lst Du)) (h6:τ.lists B=some (nints (matesN w))) (h7:τ.lists Wt=some (nints wt)) (h8:τ.lists Nm=some (L4.map chV)) (h9:τ.lists Du=some (nints ((dueL w wt).take pl))) (h10:LE σ τ):DuI w st B Wt Nm Du wt σ pl τ
inductive DuJ (w:List Nat) (st:Nat) (B Wt Nm Du Ke:Addr) (wt:List Nat) (pl:Nat) (σ:St) (i:Nat) (τ:St):Prop
 |mk (h1:τ.vars 0=some (.str (S (w++[st])))) (h2:τ.vars 1=some (.lst Wt)) (h3:τ.vars 2=some (.lst Nm)) (h4:τ.vars 3=some (.int (pl:Int))) (h5:τ.vars 4=some (.lst B)) (h6:τ.vars 5=some (.lst Du)) (h7:τ.vars 6=some (.int ((wp wt pl i:Nat):Int))) (h8:τ.vars 7=some (.lst Ke)) (h9:τ.lists B=some (nints (matesN w))) (h10:τ.lists Wt=some (nints wt)) (h11:τ.lists Nm=some (L4.map chV)) (h12:τ.lists Du=some (nints ((dueL w wt).take pl))) (h13:τ.lists Ke=some ((kp pl i).map chV)) (h14:LE σ τ):DuJ w st B Wt Nm Du Ke wt pl σ i τ
theorem con_due (W:Wk C) (h:FnSound C k W.a__law_rings T_rings) (ds:List V) (Q:V→St→Prop) (σ:St) (t:T_due ds Q σ):fnCon 2 (W_law_due W h).1 ds Q σ:=by
 obtain ⟨w,st,Wt,wt,rfl,hw,hwl,kW,hwt,hwb,hmt,q⟩:=t
 refine fn_con rfl ?_
 unfold W_law_due
 dsimp only
 have hz:10000≤sizeLine:=Nat.le_of_ble_eq_true rfl
 generalize hT:(ptSeq (ptAsgs [atName 5] _) _:PT Fl)=T
 have hgw: ∀i,i<8→(w++[st])[i]? =some (w.getD i 0):=fun i hi=>by
  rw[List.getElem?_append_left (by walk_at "a"),List.getElem?_eq_getElem (by walk_at "a"),List.getD_eq_getElem?_getD,List.getElem?_eq_getElem (by walk_at "a")];rfl
 repeat walk_at "mine"
 rw[names4]
 refine ⟨Nat.le_of_ble_eq_true rfl,fun Nm hNm=>?_⟩
 replace hNm:σ.lists Nm=none:=hNm
 repeat walk_at "mine"
 refine p_rg1 (n:=8) rfl (by walk_at "a") ?_
 have hNW:Wt≠Nm:=fun z=>by rw[←z,kW] at hNm;cases hNm
 refine CompGo.mk (DuC w st Wt Nm wt σ) ?_ ?_ ?_ ?_
 ·intro B hB
  obtain ⟨hBN,hB⟩:=fresh hB
  replace hB:σ.lists B=none:=hB
  have hBW:Wt≠B:=fun z=>by rw[←z,kW] at hB;cases hB
  refine ⟨rfl,if_pos rfl,(if_neg hBW).trans ((setL_other hNW).trans kW),(if_neg (Ne.symm hBN)).trans setL_get,rfl,fun b xs e=>(if_neg (fun z=>?_)).trans ((LE.refl.setL hNm) b xs e)⟩
  rw[z,hB] at e;cases e
 ·rintro B i ys σc _ _ ⟨_,h,_⟩;exact ⟨h,trivial⟩
 ·rintro B i ys v σc hB hx ⟨v3,cB,cW,cN,hy,le⟩
  obtain ⟨hBN,hB⟩:=fresh hB
  replace hB:σ.lists B=none:=hB
  have hBW:Wt≠B:=fun z=>by rw[←z,kW] at hB;cases hB
  obtain ⟨hi,rfl⟩:=range_int hx
  have hti:(matesN w).take (i+1)=(matesN w).take i++[(mateL w i).headD 0]:=by
   rw[List.take_add_one]
   congr 1
   unfold matesN
   rw[List.getElem?_map,List.getElem?_range hi];rfl
  have hyl:ys.length≤i:=by rw[hy,nints_len,List.length_take];lia
  repeat walk_at "mine"
  refine p_rg1 (n:=8) rfl (by walk_at "a") ?_
  refine CompGo.mk (DuD w st B Wt Nm wt i ys σ) ?_ ?_ ?_ ?_
  ·intro B2 hB2
   replace hB2:σc.lists B2=none:=hB2
   have h1:B≠B2:=fun z=>by rw[←z,cB] at hB2;cases hB2
   have h2:Wt≠B2:=fun z=>by rw[←z,cW] at hB2;cases hB2
   have h3:Nm≠B2:=fun z=>by rw[←z,cN] at hB2;cases hB2
   refine ⟨rfl,v3,if_pos rfl,(if_neg h1).trans cB,(if_neg h2).trans cW,(if_neg h3).trans cN,rfl,fun b xs e=>(if_neg (fun z=>?_)).trans (le b xs e)⟩
   rw[z,le.none hB2] at e;cases e
  ·rintro B2 j zs σd _ _ ⟨_,_,h,_⟩;exact ⟨h,trivial⟩
  ·rintro B2 j zs v σd hB2 hx ⟨u2,u3,d2,dB,dW,dN,hzs,led⟩
   replace hB2:σc.lists B2=none:=hB2
   have hB20:=le.none hB2
   have h1:B≠B2:=fun z=>by rw[←z,cB] at hB2;cases hB2
   have h2:Wt≠B2:=fun z=>by rw[←z,cW] at hB2;cases hB2
   have h3:Nm≠B2:=fun z=>by rw[←z,cN] at hB2;cases hB2
   obtain ⟨hj,rfl⟩:=range_int hx
   have htj:(List.range 8).take (j+1)=(List.range 8).take j++[j]:=by
    rw[List.take_add_one,List.getElem?_range hj];rfl
   have hzl:zs.length≤j:=by
    rw[hzs,nints_len];exact Nat.le_trans (List.length_filter_le ..) (by rw[List.length_take];lia)
   repeat walk_at "mine"
   by_cases c1:j=i
   ·refine c_neiF (by walk_at "a") ?_
    repeat walk_at "mine"
    refine ⟨u2,u3,d2,dB,dW,dN,?_,led⟩
    rw[htj,List.filter_append,hzs]
    simp[c1]
   ·refine c_neiT (by walk_at "a") ?_
    repeat walk_at "mine"
    refine it_str (hgw j hj) (by simp;lia) ?_
    repeat walk_at "mine"
    refine it_str (hgw i hi) (by simp;lia) ?_
    by_cases c2:w.getD j 0=w.getD i 0
    ·refine c_eqsT (by rw[c2]) ?_
     repeat walk_at "mine"
     refine ⟨d2,by walk_at "a",u2,u3,setL_get,(setL_other h1).trans dB,(setL_other h2).trans dW,(setL_other h3).trans dN,?_,led.setL hB20⟩
     have hf1:([j]:List Nat).filter (fun q=>decide (q≠i)&&decide (w.getD q 0=w.getD i 0))=[j]:=by
      rw[List.filter_cons_of_pos (by rw[decide_eq_true c1,decide_eq_true c2];rfl)];rfl
     rw[htj,List.filter_append,nints_app,hf1,←hzs];rfl
    ·refine c_eqsF (by intro z;exact c2 (by simpa using z)) ?_
     repeat walk_at "mine"
     refine ⟨u2,u3,d2,dB,dW,dN,?_,led⟩
     have hf1:([j]:List Nat).filter (fun q=>decide (q≠i)&&decide (w.getD q 0=w.getD i 0))=[]:=by
      rw[List.filter_cons_of_neg (by rw[decide_eq_false c2,Bool.and_false];decide)];rfl
     rw[htj,List.filter_append,nints_app,hf1,←hzs];exact (List.append_nil _).symm
  ·rintro B2 zs σd hB2 ⟨u2,u3,d2,dB,dW,dN,hzs,led⟩
   replace hB2:σc.lists B2=none:=hB2
   have h8:(List.range 8).take ((List.map (fun i:Nat=>V.int (i:Int)) (List.range 8)).length)=List.range 8:=by rw[List.length_map,List.take_length]
   rw[h8] at hzs
   replace hzs:zs=nints (mateL w i):=hzs
   repeat walk_at "mine"
   obtain ⟨m0,mr,hm⟩: ∃m0 mr,mateL w i=m0::mr:=by
    cases h:mateL w i with
    |nil=>exact absurd h (hmt i hi)
    |cons a r=>exact ⟨a,r,rfl⟩
   rw[hm] at hzs hti
   refine it_lst (i:=0) (y:= .int (m0:Int)) (d2.trans (by rw[hzs])) rfl (by walk_at "a") ?_
   refine ⟨dB,by walk_at "a",v3,setL_get,(setL_other hBW).trans dW,(setL_other (Ne.symm hBN)).trans dN,?_,led.setL hB⟩
   rw[hti,nints_app,hy];rfl
 ·rintro B ys σc hB ⟨v3,cB,cW,cN,hy,le⟩
  obtain ⟨hBN,hB⟩:=fresh hB
  replace hB:σ.lists B=none:=hB
  obtain ⟨hml,hm8⟩:=mates_ok w
  rw[List.length_map,List.length_range,←hml,List.take_length] at hy
  subst hy
  rw[←hT]
  repeat walk_at "mine"
  refine ⟨Nat.le_of_ble_eq_true rfl,fun Du hDu=>?_⟩
  replace hDu:σc.lists Du=none:=hDu
  have hDu0:=le.none hDu
  have hDB:B≠Du:=fun z=>by rw[←z,cB] at hDu;cases hDu
  have hDW:Wt≠Du:=fun z=>by rw[←z,cW] at hDu;cases hDu
  have hDN:Nm≠Du:=fun z=>by rw[←z,cN] at hDu;cases hDu
  repeat walk_at "mine"
  refine p_rg1 (n:=16) rfl (by walk_at "a") ?_
  refine ForOk.mk (DuI w st B Wt Nm Du wt σ) ?_ (fun _ _ _ _=>trivial) ?_ ?_
  ·exact ⟨rfl,rfl,rfl,rfl,rfl,(setL_other hDB).trans cB,(setL_other hDW).trans cW,(setL_other hDN).trans cN,setL_get,le.setL hDu0⟩
  ·rintro pl v τ hx ⟨a0,a1,a2,a4,a5,tB,tW,tN,tD,let'⟩
   obtain ⟨hpl,rfl⟩:=range_int hx
   have hdt:(dueL w wt).take (pl+1)=(dueL w wt).take pl++[if ringsN w (matesN w) (kp pl 4)=1 then wp wt pl 4 else 0]:=by
    rw[List.take_add_one]
    congr 1
    unfold dueL
    rw[List.getElem?_map,List.getElem?_range hpl];rfl
   generalize hT2:(ptSeq (ptExpr (ptMeth Mth.append (ptVar 5) _)) _:PT Fl)=T2
   repeat walk_at "mine"
   refine ⟨Nat.le_of_ble_eq_true rfl,fun Ke hKe=>?_⟩
   replace hKe:τ.lists Ke=none:=hKe
   have hKe0:=let'.none hKe
   have k1:B≠Ke:=fun z=>by rw[←z,tB] at hKe;cases hKe
   have k2:Wt≠Ke:=fun z=>by rw[←z,tW] at hKe;cases hKe
   have k3:Nm≠Ke:=fun z=>by rw[←z,tN] at hKe;cases hKe
   have k4:Du≠Ke:=fun z=>by rw[←z,tD] at hKe;cases hKe
   repeat walk_at "mine"
   refine p_rg1 (n:=4) rfl (by walk_at "a") ?_
   refine ForOk.mk (DuJ w st B Wt Nm Du Ke wt pl σ) ?_ (fun _ _ _ _=>trivial) ?_ ?_
   ·exact ⟨a0,a1,a2,rfl,a4,a5,rfl,rfl,(setL_other k1).trans tB,(setL_other k2).trans tW,(setL_other k3).trans tN,(setL_other k4).trans tD,setL_get,let'.setL hKe0⟩
   ·rintro i v τ1 hx ⟨b0,b1,b2,b3,b4,b5,b6,b7,sB,sW,sN,sD,sK,les⟩
    obtain ⟨hi,rfl⟩:=range_int hx
    have hwpl:Builtin.Int.intBits ((wp wt pl i:Nat):Int)≤100*i+1:=bits_of (wp_lt hwb pl i)
    obtain ⟨hkok,hkl⟩:=kp_ok pl i
    have hp2:2^(3-i)≤2^3:=Nat.pow_le_pow_right (by decide) (by walk_at "a")
    have hp3:0<2^(3-i):=Nat.two_pow_pos _
    have hw1:wp wt pl (i+1)=if bitB pl i=true then wp wt pl i*wt.getD i 0 else wp wt pl i:=rfl
    have hk1:kp pl (i+1)=if bitB pl i=true then kp pl i else kp pl i++[L4.getD i 0]:=rfl
    have hwtb:Builtin.Int.intBits ((wt.getD i 0:Nat):Int)≤100:=bits_of (by
     rw[List.getD_eq_getElem?_getD,List.getElem?_eq_getElem (by walk_at "a")];exact hwb _ (List.getElem_mem _))
    repeat walk_at "mine"
    refine o_subE (c:=((3-i:Nat):Int)) (by walk_at "a") ?_
    refine o_pow (by walk_at "a") (by walk_at "a") (by decide) ?_
    rw[Int.toNat_natCast]
    refine o_divE (n_shr pl (3-i)) (by rw[n_pow];lia) (by rw[n_pow,Int.natAbs_natCast];lia) ?_
    repeat walk_at "mine"
    refine o_modE (n_fmod _ 2) (by decide) ?_
    repeat walk_at "mine"
    by_cases c:pl/2^(3-i)%2=1
    ·have hb:bitB pl i=true:=decide_eq_true c
     rw[if_pos hb] at hw1 hk1
     refine c_eqT (by walk_at "a") ?_
     repeat walk_at "mine"
     refine it_lst (i:=i) sW (nints_getD (d:=0) (by walk_at "a")) (by walk_at "a") ?_
     refine .mul (mulOk (m:=0) (by walk_at "a")) ?_
     repeat walk_at "mine"
     refine ⟨b0,b1,b2,b3,b4,b5,?_,b7,sB,sW,sN,sD,by rw[hk1];exact sK,les⟩
     rw[hw1];exact rfl
    ·have hb: ¬bitB pl i=true:=by rw[show bitB pl i=false from decide_eq_false c];decide
     rw[if_neg hb] at hw1 hk1
     refine c_eqF (by walk_at "a") ?_
     repeat walk_at "mine"
     refine fit_lst rfl sK ?_
     repeat walk_at "mine"
     refine it_lst (i:=i) (y:=chV (L4.getD i 0)) sN ?_ (by walk_at "a") ?_
     ·match i,hi with
      |0,_=>rfl
      |1,_=>rfl
      |2,_=>rfl
      |3,_=>rfl
     repeat walk_at "mine"
     refine m_append sK (by rw[List.length_map];lia) ?_
     repeat walk_at "mine"
     refine ⟨b0,b1,b2,b3,b4,b5,by rw[hw1];exact b6,b7,(setL_other k1).trans sB,(setL_other k2).trans sW,(setL_other k3).trans sN,(setL_other k4).trans sD,?_,les.setL hKe0⟩
     refine setL_get.trans ?_
     rw[hk1,List.map_append];rfl
   ·rintro τ1 ⟨b0,b1,b2,b3,b4,b5,b6,b7,sB,sW,sN,sD,sK,les⟩
    rw[List.length_map,List.length_range] at b6 sK
    obtain ⟨hkok,hkl⟩:=kp_ok pl 4
    rw[←hT2]
    repeat walk_at "mine"
    refine fit_lst rfl sD ?_
    repeat walk_at "mine"
    refine ⟨w,st,B,Ke,matesN w,kp pl 4,rfl,hw,hwl,sB,hml,hm8,sK,hkok,by walk_at "a",fun σ' x'=>?_⟩
    repeat walk_at "mine"
    have hlen:((dueL w wt).take pl).length≤16:=by rw[List.length_take];lia
    have e': ∀{E xs},τ1.lists E=some xs→E≠Du→(setL {vars:=τ1.vars,lists:=σ'.lists,ro:=τ1.ro} Du (nints ((dueL w wt).take pl)++[V.int ((if ringsN w (matesN w) (kp pl 4)=1 then wp wt pl 4 else 0:Nat):Int)])).lists E=some xs:=fun {E xs} h n=>(setL_other n).trans (x'.lists E _ h)
    by_cases c:ringsN w (matesN w) (kp pl 4)=1
    ·rw[if_pos c] at hdt
     refine c_eqT (by walk_at "a") ?_
     repeat walk_at "mine"
     refine m_append (xs:=nints ((dueL w wt).take pl)) (x'.lists Du _ sD) (by rw[nints_len];lia) ?_
     repeat walk_at "mine"
     rw[if_pos c] at e'
     refine ⟨b0,b1,b2,b4,b5,e' sB hDB,e' sW hDW,e' sN hDN,?_,LE.setL (fun b xs e=>x'.lists b xs (les b xs e)) hDu0⟩
     refine setL_get.trans ?_
     rw[hdt,nints_app];rfl
    ·rw[if_neg c] at hdt
     refine c_eqF (by walk_at "a") ?_
     repeat walk_at "mine"
     refine m_append (xs:=nints ((dueL w wt).take pl)) (x'.lists Du _ sD) (by rw[nints_len];lia) ?_
     repeat walk_at "mine"
     rw[if_neg c] at e'
     refine ⟨b0,b1,b2,b4,b5,e' sB hDB,e' sW hDW,e' sN hDN,?_,LE.setL (fun b xs e=>x'.lists b xs (les b xs e)) hDu0⟩
     refine setL_get.trans ?_
     rw[hdt,nints_app];rfl
  ·rintro τ ⟨a0,a1,a2,a4,a5,tB,tW,tN,tD,let'⟩
   have h16:(dueL w wt).take ((List.map (fun i:Nat=>V.int (i:Int)) (List.range 16)).length)=dueL w wt:=by
    rw[List.length_map,List.length_range]
    exact List.take_of_length_le (by unfold dueL;simp)
   rw[h16] at tD
   repeat walk_at "mine"
   exact q _ Du let'.ext hDu0 tD
theorem due_sound (W:Wk C):FnSound C 2 W.a__law_due T_due:=
 FnSound.weak (fnAt_sound (m:=2) W W.f__law_due (W_law_due (k:=1) W (rings_sound W)).2 (fun pm cd doc vs h=>by
    obtain ⟨a,b,rfl⟩:=bind2 h
    rfl) (by kernel_rfl)) fun ds Q σ t=>con_due W _ ds Q σ t
end
end
section
open PySem PySem.Spec PySem.Calls PyProof.Rows PySem.W
section
variable {C:Ctx} {k:Nat}
noncomputable def row (M:Nat→Nat→Int) (k:Nat):List Int:=[M k 0,M k 1,M k 2,M k 3]
noncomputable def upd (M:Nat→Nat→Int) (i j:Nat) (v:Int):Nat→Nat→Int:=fun a b=>if a=i∧b=j then v else M a b
structure Tab (R:Addr) (ra:Nat→Addr) (M:Nat→Nat→Int) (τ:St):Prop where
 top:τ.lists R=some [.lst (ra 0),.lst (ra 1),.lst (ra 2),.lst (ra 3)]
 row: ∀k,k<4→τ.lists (ra k)=some (ivs (row M k))
 inj: ∀a b,a<4→b<4→ra a=ra b→a=b
 ne: ∀k,k<4→ra k≠R
theorem Tab.congr {R:Addr} {ra:Nat→Addr} {M M':Nat→Nat→Int} {τ:St} (h:Tab R ra M τ) (e: ∀a b,a<4→b<4→M a b=M' a b):Tab R ra M' τ:=by
 refine ⟨h.top,fun k hk=>?_,h.inj,h.ne⟩
 rw[h.row k hk]
 unfold Mine.row
 rw[e k 0 hk (by decide),e k 1 hk (by decide),e k 2 hk (by decide),e k 3 hk (by decide)]
theorem Tab.to {R:Addr} {ra:Nat→Addr} {M:Nat→Nat→Int} {τ τ':St} (h:Tab R ra M τ) (l: ∀b xs,τ.lists b=some xs→τ'.lists b=some xs):Tab R ra M τ':=⟨l _ _ h.top,fun k hk=>l _ _ (h.row k hk),h.inj,h.ne⟩
theorem cases4 {p:Nat→Prop} {i:Nat} (h:i<4) (h0:p 0) (h1:p 1) (h2:p 2) (h3:p 3):p i:=by
 match i,h with
 |0,_=>exact h0
 |1,_=>exact h1
 |2,_=>exact h2
 |3,_=>exact h3
theorem Tab.getR {R:Addr} {ra:Nat→Addr} {M:Nat→Nat→Int} {τ:St} (h:Tab R ra M τ) {i:Nat} (hi:i<4) {Q:V→St→Prop} (q:Q (.lst (ra i)) τ):itPT (.lst R) (.int (i:Int)) Q τ:=
 it_lst (i:=i) h.top (cases4 (p:=fun i=>[V.lst (ra 0),.lst (ra 1),.lst (ra 2),.lst (ra 3)][i]? =some (V.lst (ra i))) hi rfl rfl rfl rfl) (by walk_at "a") q
theorem Tab.get {R:Addr} {ra:Nat→Addr} {M:Nat→Nat→Int} {τ:St} (h:Tab R ra M τ) {i j:Nat} (hi:i<4) (hj:j<4) {Q:V→St→Prop} (q:Q (.int (M i j)) τ):itPT (.lst (ra i)) (.int (j:Int)) Q τ:=
 it_lst (i:=j) (h.row i hi) (cases4 (p:=fun j=>(ivs (Mine.row M i))[j]? =some (V.int (M i j))) hj rfl rfl rfl rfl) (by walk_at "a") q
theorem row_upd_ne {M:Nat→Nat→Int} {i j k:Nat} {v:Int} (h:k≠i):row (upd M i j v) k=row M k:=by
 unfold row upd
 simp[h]
theorem row_upd {M:Nat→Nat→Int} {i j:Nat} {v:Int} (hj:j<4):(ivs (row M i)).set j (.int v)=ivs (row (upd M i j v) i):=by
 refine cases4 (p:=fun j=>(ivs (row M i)).set j (.int v)=ivs (row (upd M i j v) i)) hj ?_ ?_ ?_ ?_<;>simp[row,upd,ivs]
theorem Tab.set {R:Addr} {ra:Nat→Addr} {M:Nat→Nat→Int} {τ:St} (h:Tab R ra M τ) {i j:Nat} (hi:i<4) (hj:j<4) {v:Int} {Q:St→Prop} (q: ∀xs,Tab R ra (upd M i j v) (setL τ (ra i) xs)→Q (setL τ (ra i) xs)):sitPT (.lst (ra i)) (.int (j:Int)) (.int v) Q τ:=by
 refine sit_lst (h.row i hi) (by show j<4;exact hj) (Nat.le_of_ble_eq_true rfl) ?_
 rw[row_upd hj]
 refine q _ ⟨(setL_other (Ne.symm (h.ne i hi))).trans h.top,fun k hk=>?_,h.inj,h.ne⟩
 by_cases c:k=i
 ·subst c;exact setL_get
 ·rw[row_upd_ne c]
  exact (setL_other (fun z=>c (h.inj k i hk hi z))).trans (h.row k hk)
theorem ivs_get {c:List Int} {i:Nat} (h:i<c.length):(ivs c)[i]? =some (V.int (c.getD i 0)):=by
 unfold ivs
 rw[List.getElem?_map,List.getElem?_eq_getElem h,List.getD_eq_getElem?_getD,List.getElem?_eq_getElem h];rfl
noncomputable def widN (c7:Int):Nat:=400+(c7.fmod ((64:Nat):Int)).toNat
noncomputable def sgn (c7:Int):Int:=1-2*(((c7.fdiv 64).fmod ((2:Nat):Int)).toNat:Int)
noncomputable def matF (s:Int) (wd:Nat) (wt:List Nat) (en:Nat→Nat→Int) (a b:Nat):Int:=
 if a=b then s*(wt.getD a 0:Int)*2^(wd*2^(3-a)) else if a<b then en a b else-(en b a)
inductive T_table (ds:List V) (Q:V→St→Prop) (σ:St):Prop
 |mk (w:List Nat) (st:Nat) (Wt Ce:Addr) (wt:List Nat) (c:List Int) (en:Nat→Nat→Int) (h1:ds=[.str (S (w++[st])),.lst Wt,.lst Ce]) (h2:w.length=8) (h3:(∀c∈w,c∈L4)) (h4:st∈stayL) (h5:σ.lists Wt=some (nints wt)) (h6:wt.length=4) (h7:(∀x∈wt,Builtin.Int.intBits (x:Int)≤100)) (h8:σ.lists Ce=some (ivs c)) (h9:c.length=9) (h10:(∀j i,j<i→i<4→EntOk w (L4.getD j 0) (L4.getD i 0) (en j i)∧en j i≠9)) (h11: ∀σ' R ra,Ext σ σ'→Tab R ra (matF (sgn (c.getD 7 0)) (widN (c.getD 7 0)) wt en) σ'→σ.lists R=none→(∀k,k<4→σ.lists (ra k)=none)→Q (.lst R) σ'):T_table ds Q σ
inductive Zr (σ:St) (Nm:Addr) (ns:List V) (ra:Nat→Addr) (n:Nat) (τ:St):Prop
 |mk (le:LE σ τ) (nm:τ.lists Nm=some ns) (zs: ∀k,k<n→τ.lists (ra k)=some [V.int 0,V.int 0,V.int 0,V.int 0]) (inj: ∀a b,a<n→b<n→ra a=ra b→a=b) (no: ∀k,k<n→σ.lists (ra k)=none) (ne: ∀k,k<n→Nm≠ra k):Zr σ Nm ns ra n τ
noncomputable def exA (ra:Nat→Addr) (n:Nat) (D:Addr):Nat→Addr:=fun k=>if k=n then D else ra k
theorem Zr.start {σ τ:St} {Nm:Addr} {ns:List V} (h:τ.lists Nm=none) (le:LE σ τ):Zr σ Nm ns (fun _=>Nm) 0 (setL τ Nm ns):=⟨le.setL (le.none h),setL_get,nofun,nofun,nofun,nofun⟩
theorem up_to {p:Nat→Prop} {n:Nat} (h0:p n) (h1: ∀k,k<n→p k) (k:Nat) (hk:k<n+1):p k:=(Nat.lt_or_eq_of_le (Nat.lt_succ_iff.mp hk)).elim (h1 k) fun e=>e▸h0
theorem Zr.next {σ τ:St} {Nm D:Addr} {ns:List V} {ra:Nat→Addr} {n:Nat} (h:Zr σ Nm ns ra n τ) (hD:τ.lists D=none):Zr σ Nm ns (exA ra n D) (n+1) (setL τ D [V.int 0,V.int 0,V.int 0,V.int 0]):=by
 refine h.casesOn fun le nm zs inj no ne=>?_
 have e1:exA ra n D n=D:=if_pos rfl
 have e2: ∀k,k<n→exA ra n D k=ra k:=fun k hk=>if_neg (Nat.ne_of_lt hk)
 refine ⟨le.setL (le.none hD),(setL_other (lk_ne hD nm)).trans nm,up_to (by rw[e1];exact setL_get) (fun k hk=>by rw[e2 k hk];exact (setL_other (lk_ne hD (zs k hk))).trans (zs k hk)),?_,up_to (by rw[e1];exact le.none hD) (fun k hk=>by rw[e2 k hk];exact no k hk),up_to (by rw[e1];exact lk_ne hD nm) fun k hk=>by rw[e2 k hk];exact ne k hk⟩
 refine fun a b ha hb=>up_to (p:=fun a=>exA ra n D a=exA ra n D b→a=b) ?_ ?_ a ha
 ·refine up_to (p:=fun b=>exA ra n D n=exA ra n D b→n=b) (fun _=>rfl) (fun b hb e=>?_) b hb
  rw[e1,e2 b hb] at e;exact absurd e.symm (lk_ne hD (zs b hb))
 ·refine fun a ha=>up_to (p:=fun b=>exA ra n D a=exA ra n D b→a=b) (fun e=>?_) (fun b hb e=>?_) b hb
  ·rw[e1,e2 a ha] at e;exact absurd e (lk_ne hD (zs a ha))
  ·rw[e2 a ha,e2 b hb] at e;exact inj a b ha hb e
theorem Zr.fin {σ τ:St} {Nm R:Addr} {ns:List V} {ra:Nat→Addr} (h:Zr σ Nm ns ra 4 τ) (hR:τ.lists R=none):And6 (Tab R ra (fun _ _=>0) (setL τ R [.lst (ra 0),.lst (ra 1),.lst (ra 2),.lst (ra 3)])) ((setL τ R [.lst (ra 0),.lst (ra 1),.lst (ra 2),.lst (ra 3)]).lists Nm=some ns) (LE σ (setL τ R [.lst (ra 0),.lst (ra 1),.lst (ra 2),.lst (ra 3)])) (σ.lists R=none) (∀k,k<4→σ.lists (ra k)=none) (∀k,k<4→Nm≠ra k):=
 h.casesOn fun le nm zs inj no ne=>⟨⟨setL_get,fun k hk=>(setL_other (lk_ne hR (zs k hk))).trans (zs k hk),inj,fun k hk=>lk_ne hR (zs k hk)⟩,(setL_other (lk_ne hR nm)).trans nm,le.setL (le.none hR),le.none hR,no,ne⟩
noncomputable def tQ (i a b:Nat):Bool:=decide (a<i)&&decide (b<i)
noncomputable def tP (i j a b:Nat):Bool:=tQ i a b||a==i&&b==i||a==i&&decide (b<j)||b==i&&decide (a<j)
noncomputable def tI (F:Nat→Nat→Int) (i a b:Nat):Int:=if tQ i a b=true then F a b else 0
noncomputable def tJ (F:Nat→Nat→Int) (i j a b:Nat):Int:=if tP i j a b=true then F a b else 0
set_option synthInstance.maxSize 4000 in
set_option synthInstance.maxHeartbeats 400000 in
theorem tP_one: ∀i,i<4→ ∀a,a<4→ ∀b,b<4→(a=i∧b=i→tP i 0 a b=true)∧(¬(a=i∧b=i)→tP i 0 a b=tQ i a b)∧tP i i a b=tQ (i+1) a b∧tQ 4 a b=true:=by decide+kernel
set_option synthInstance.maxSize 4000 in
set_option synthInstance.maxHeartbeats 400000 in
theorem tP_two: ∀i,i<4→ ∀j,j<4→ ∀a,a<4→ ∀b,b<4→(a=i∧b=j→tP i (j+1) a b=true)∧(a=j∧b=i→tP i (j+1) a b=true)∧(¬(a=i∧b=j)→ ¬(a=j∧b=i)→tP i (j+1) a b=tP i j a b):=by decide+kernel
theorem tI_zero (F:Nat→Nat→Int) (a b:Nat) (ha:a<4) (hb:b<4):0=tI F 0 a b:=(if_neg (show ¬tQ 0 a b=true from nofun)).symm
theorem tI_end (F:Nat→Nat→Int) (a b:Nat) (ha:a<4) (hb:b<4):tI F 4 a b=F a b:=if_pos (tP_one 0 (by decide) a ha b hb).2.2.2
theorem tJ_end (F:Nat→Nat→Int) {i:Nat} (hi:i<4) (a b:Nat) (ha:a<4) (hb:b<4):tJ F i i a b=tI F (i+1) a b:=by unfold tI tJ;rw[(tP_one i hi a ha b hb).2.2.1]
theorem tJ_zero (F:Nat→Nat→Int) {i:Nat} (hi:i<4) (a b:Nat) (ha:a<4) (hb:b<4):upd (tI F i) i i (F i i) a b=tJ F i 0 a b:=by
 unfold upd tJ
 have h:=tP_one i hi a ha b hb
 by_cases c:a=i∧b=i
 ·rw[if_pos c,if_pos (h.1 c),c.1,c.2]
 ·rw[if_neg c,h.2.1 c];rfl
theorem tJ_next (F:Nat→Nat→Int) {i j:Nat} (hi:i<4) (hj:j<4) (a b:Nat) (ha:a<4) (hb:b<4):upd (upd (tJ F i j) j i (F j i)) i j (F i j) a b=tJ F i (j+1) a b:=by
 unfold upd tJ
 have h:=tP_two i hi j hj a ha b hb
 by_cases c:a=i∧b=j
 ·rw[if_pos c,if_pos (h.1 c),c.1,c.2]
 ·by_cases d:a=j∧b=i
  ·rw[if_neg c,if_pos d,if_pos (h.2.1 d),d.1,d.2]
  ·rw[if_neg c,if_neg d,h.2.2 c d]
theorem matF_d (s:Int) (wd:Nat) (wt:List Nat) (en:Nat→Nat→Int) (i:Nat):s*(wt.getD i 0:Int)*2^(wd*2^(3-i))=matF s wd wt en i i:=(if_pos rfl).symm
theorem matF_u (s:Int) (wd:Nat) (wt:List Nat) (en:Nat→Nat→Int) {i j:Nat} (h:j<i):matF s wd wt en j i=en j i:=(if_neg (Nat.ne_of_lt h)).trans (if_pos h)
theorem matF_l (s:Int) (wd:Nat) (wt:List Nat) (en:Nat→Nat→Int) {i j:Nat} (h:j<i):matF s wd wt en i j= -(en j i):=(if_neg (Nat.ne_of_gt h)).trans (if_neg (Nat.not_lt_of_gt h))
theorem widN_le (x:Int):widN x≤463:=Nat.add_le_add_left (Nat.le_of_lt_succ (fmod_lt (x:=x) (s:=64) (by decide)).1) 400
theorem sgn_ok (x:Int):sgn x=1∨sgn x= -1:=by
 have h:=(fmod_lt (x:=x.fdiv 64) (s:=2) (by decide)).1
 unfold sgn
 generalize ((x.fdiv 64).fmod ((2:Nat):Int)).toNat=g at h
 match g,h with
 |0,_=>exact .inl rfl
 |1,_=>exact .inr rfl
theorem dia_ok {s:Int} {wd v:Nat} (i:Nat) (hs:s=1∨s= -1) (hw:wd≤463) (hv:Builtin.Int.intBits (v:Int)≤100):And4 (IntMulOk s (v:Int)) (IntMulOk (wd:Int) (2^(3-i))) (wd*2^(3-i)≤463*8) (IntMulOk (s*(v:Int)) (2^(wd*2^(3-i)))):=by
 have h3:2^(3-i)≤2^3:=Nat.pow_le_pow_right (by decide) (Nat.sub_le 3 i)
 have h4:wd*2^(3-i)≤463*8:=Nat.mul_le_mul hw h3
 have h5:Builtin.Int.intBits s≤1:=hs.elim (fun e=>e▸Nat.le_of_ble_eq_true rfl) fun e=>e▸Nat.le_of_ble_eq_true rfl
 have h6:Builtin.Int.intBits (s*(v:Int))≤100:=by
  refine hs.elim (fun e=>?_) fun e=>?_
  ·rw[e,Int.one_mul];exact hv
  ·rw[e,Int.neg_mul,Int.one_mul,bits_neg];exact hv
 have h7:Builtin.Int.intBits (2^(wd*2^(3-i)))≤463*8+1:=by
  rw[n_pow];exact bits_of (Nat.pow_lt_pow_right (by decide) (Nat.lt_succ_of_le h4))
 refine ⟨mulOk (m:=0) (Nat.le_trans (Nat.add_le_add h5 hv) (by decide)),?_,h4,mulOk (m:=0) (Nat.le_trans (Nat.add_le_add h6 h7) (by decide))⟩
 rw[n_pow];exact mulS (Nat.lt_of_le_of_lt hw (by decide)) (Nat.lt_of_le_of_lt h3 (by decide))
theorem all_getD {p:Nat→Prop} {l:List Nat} (h: ∀x∈l,p x) {i:Nat} (hi:i<l.length):p (l.getD i 0):=by
 rw[List.getD_eq_getElem?_getD,List.getElem?_eq_getElem hi];exact h _ (List.getElem_mem _)
theorem nm_get {a:Nat} (h:a<4):(L4.map chV)[a]? =some (.str (S [L4.getD a 0]))∧L4.getD a 0∈L4:=cases4 (p:=fun a=>(L4.map chV)[a]? =some (.str (S [L4.getD a 0]))∧L4.getD a 0∈L4) h ⟨rfl,by decide⟩ ⟨rfl,by decide⟩ ⟨rfl,by decide⟩ ⟨rfl,by decide⟩
inductive TbB (w:List Nat) (st:Nat) (Wt Ce Nm R:Addr) (wd:Nat) (ra:Nat→Addr) (M:Nat→Nat→Int) (num:Nat) (σ τ:St):Prop
 |mk (v0:τ.vars 0=some (.str (S (w++[st])))) (v1:τ.vars 1=some (.lst Wt)) (v2:τ.vars 2=some (.lst Ce)) (v3:τ.vars 3=some (.lst Nm)) (v4:τ.vars 4=some (.lst R)) (v5:τ.vars 5=some (.int (wd:Int))) (v6:τ.vars 6=some (.int (num:Int))) (tb:Tab R ra M τ) (lN:τ.lists Nm=some (L4.map chV)) (le:LE σ τ):TbB w st Wt Ce Nm R wd ra M num σ τ
inductive TbI (w:List Nat) (st:Nat) (Wt Ce Nm R:Addr) (wd:Nat) (ra:Nat→Addr) (F:Nat→Nat→Int) (σ:St) (i:Nat) (τ:St):Prop
 |mk (num:Nat) (b:TbB w st Wt Ce Nm R wd ra (tI F i) num σ τ):TbI w st Wt Ce Nm R wd ra F σ i τ
inductive TbJ (w:List Nat) (st:Nat) (Wt Ce Nm R:Addr) (wd:Nat) (ra:Nat→Addr) (F:Nat→Nat→Int) (i:Nat) (σ:St) (j:Nat) (τ:St):Prop
 |mk (num:Nat) (b:TbB w st Wt Ce Nm R wd ra (tJ F i j) num σ τ) (v7:τ.vars 7=some (.int (i:Int))):TbJ w st Wt Ce Nm R wd ra F i σ j τ
theorem con_table (W:Wk C) (h:FnSound C k W.a__law_entry T_entry) (ds:List V) (Q:V→St→Prop) (σ:St) (t:T_table ds Q σ):fnCon 3 (W_law_table W h).1 ds Q σ:=by
 refine t.casesOn fun w st Wt Ce wt c en hds hw hL hst kW hwt hwb kC hcl hen q=>?_
 rw[hds]
 clear t hds ds
 refine fn_con rfl ?_
 unfold W_law_table
 dsimp only
 generalize hT:(ptSeq (ptFor _ _ _) _:PT Fl)=T
 repeat walk_at "mine"
 rw[names4]
 refine ⟨Nat.le_of_ble_eq_true rfl,fun Nm hNm=>?_⟩
 have z0:=Zr.start (σ:=σ) (ns:=L4.map chV) hNm fun _ _ e=>e
 repeat walk_at "mine"
 refine ⟨Nat.le_of_ble_eq_true rfl,fun R0 hR0=>?_⟩
 replace z0:=z0.next hR0
 repeat walk_at "mine"
 refine ⟨Nat.le_of_ble_eq_true rfl,fun R1 hR1=>?_⟩
 replace z0:=z0.next hR1
 repeat walk_at "mine"
 refine ⟨Nat.le_of_ble_eq_true rfl,fun R2 hR2=>?_⟩
 replace z0:=z0.next hR2
 repeat walk_at "mine"
 refine ⟨Nat.le_of_ble_eq_true rfl,fun R3 hR3=>?_⟩
 replace z0:=z0.next hR3
 repeat walk_at "mine"
 refine ⟨Nat.le_of_ble_eq_true rfl,fun R hR=>?_⟩
 refine (z0.fin hR).casesOn fun tab lNm leA hR' hra hNe=>?_
 clear z0 hNm hR0 hR1 hR2 hR3 hR
 repeat walk_at "mine"
 have hsg:=sgn_ok (c.getD 7 0)
 have hwd:=widN_le (c.getD 7 0)
 have d2:=(fmod_lt (x:=c.getD 7 0) (s:=64) (by decide)).2
 have g2:=(fmod_lt (x:=(c.getD 7 0).fdiv 64) (s:=2) (by decide))
 have hc7:=ivs_get (c:=c) (i:=7) (hcl▸by decide)
 have hc2:=ivs_get (c:=c) (i:=2) (hcl▸by decide)
 have fin: ∀(ra:Nat→Addr),(∀k,k<4→σ.lists (ra k)=none)→(∀k,k<4→Nm≠ra k)→ ∀τ,TbB w st Wt Ce Nm R (widN (c.getD 7 0)) ra (fun _ _=>0) 0 σ τ→T (fnK Q σ) τ:=by
  clear tab lNm leA hra hNe d2
  intro ra hra hNe τ B
  have hsE:1-2*(((((c.getD 7 0).fdiv 64).fmod ((2:Nat):Int)).toNat:Nat):Int)=sgn (c.getD 7 0):=rfl
  generalize sgn (c.getD 7 0)=s at q hsg hsE
  generalize widN (c.getD 7 0)=wd at q hwd B
  have hFd:=fun i=>matF_d s wd wt en i
  have hFu: ∀i j,j<i→matF s wd wt en j i=en j i:=fun i j h=>matF_u s wd wt en h
  have hFl: ∀i j,j<i→matF s wd wt en i j= -(en j i):=fun i j h=>matF_l s wd wt en h
  generalize matF s wd wt en=F at q hFd hFu hFl
  rw[←hT]
  refine B.casesOn fun a0 a1 a2 a3 a4 a5 a6 tb lN le=>?_
  repeat walk_at "mine"
  refine p_rg1 (n:=4) rfl (by decide) ?_
  refine ForOk.mk (TbI w st Wt Ce Nm R wd ra F σ) ⟨0,a0,a1,a2,a3,a4,a5,a6,tb.congr (tI_zero F),lN,le⟩ (fun _ _ _ _=>trivial) ?_ ?_
  ·clear a0 a1 a2 a3 a4 a5 a6 tb lN le B q hT
   intro i v τ1 hx I
   have hi:=range_int hx
   rw[hi.2]
   replace hi:=hi.1
   refine I.casesOn fun num B=>B.casesOn fun b0 b1 b2 b3 b4 b5 b6 tb lN le=>?_
   clear hx I B
   have hiw:i<wt.length:=hwt▸hi
   have dk:=dia_ok i hsg hwd (all_getD hwb hiw)
   generalize hT2:(ptSeq (ptFor (ptRange [ptVar 7]) _ _) _:PT Fl)=T2
   repeat walk_at "mine"
   refine it_lst (i:=7) (xs:=ivs c) (le Ce _ kC) hc7 (by decide) ?_
   repeat walk_at "mine"
   refine o_div (by decide) (by decide) ?_
   repeat walk_at "mine"
   refine o_modE g2.2 (by decide) ?_
   refine o_mulE rfl (mulS (a:=2) (by decide) (Nat.lt_trans g2.1 (by decide))) ?_
   refine o_subE (c:=s) hsE ?_
   repeat walk_at "mine"
   refine it_lst (i:=i) (xs:=nints wt) (le Wt _ kW) (nints_getD (d:=0) hiw) (idx63 hi (by decide)) ?_
   refine o_mulE rfl dk.1 ?_
   repeat walk_at "mine"
   refine o_subE (c:=((3-i:Nat):Int)) (sub_int (Nat.le_of_lt_succ hi)) ?_
   refine o_pow (Int.natCast_nonneg _) (Int.ofNat_le.mpr (Nat.le_trans (Nat.sub_le 3 i) (by decide))) (by decide) ?_
   rw[Int.toNat_natCast]
   refine o_mulE (c:=((wd*2^(3-i):Nat):Int)) (by rw[n_pow];exact (Int.natCast_mul _ _).symm) dk.2 ?_
   refine o_pow (Int.natCast_nonneg _) (Int.ofNat_le.mpr (Nat.le_trans dk.3 (by decide))) (by decide) ?_
   rw[Int.toNat_natCast]
   refine o_mulE (hFd i) dk.4 ?_
   repeat walk_at "mine"
   have tb1:Tab R ra (tI F i) (setV τ1 7 (V.int (i:Int))):=tb.to fun _ _ h=>h
   refine tb1.getR hi ?_
   repeat walk_at "mine"
   refine tb1.set hi hi fun xs tb'=>?_
   repeat walk_at "mine"
   rw[←hT2]
   repeat walk_at "mine"
   refine p_rg1 (n:=i) rfl (Nat.le_trans (Nat.le_of_lt hi) (by decide)) ?_
   refine ForOk.mk (TbJ w st Wt Ce Nm R wd ra F i σ) ⟨num,⟨b0,b1,b2,b3,b4,b5,b6,tb'.congr (tJ_zero F hi),(setL_other (hNe i hi)).trans lN,LE.setL le (hra i hi)⟩,rfl⟩ (fun _ _ _ _=>trivial) ?_ ?_
   ·clear b0 b1 b2 b3 b4 b5 b6 tb lN le tb' dk hT2 hiw hFd
    intro j v τ2 hx J
    have hj:=range_int hx
    rw[hj.2]
    replace hj:=hj.1
    refine J.casesOn fun num B e7=>B.casesOn fun e0 e1 e2 e3 e4 e5 e6 tc lM ld=>?_
    clear hx J B
    have hj4:j<4:=Nat.lt_trans hj hi
    have hE:=hen j i hj hi
    repeat walk_at "mine"
    refine it_lst (i:=j) lM (nm_get hj4).1 (idx63 hj4 (by decide)) ?_
    repeat walk_at "mine"
    refine it_lst (i:=i) lM (nm_get hi).1 (idx63 hi (by decide)) ?_
    repeat walk_at "mine"
    refine it_lst (i:=2) (xs:=ivs c) (ld Ce _ kC) hc2 (by decide) ?_
    repeat walk_at "mine"
    refine ⟨w,st,L4.getD j 0,L4.getD i 0,c.getD 2 0,num,en j i,rfl,hw,hL,(nm_get hj4).2,(nm_get hi).2,hst,hE.1,fun σ' x'=>?_⟩
    have hx':LE τ2 σ':=fun b xs e=>x'.lists b xs e
    clear x'
    repeat walk_at "mine"
    refine c_eqF hE.2 ?_
    repeat walk_at "mine"
    have td: ∀vs ro,Tab R ra (tJ F i j) ⟨vs,σ'.lists,ro⟩:=fun _ _=>tc.to hx'
    refine Tab.getR (td _ _) hj4 ?_
    repeat walk_at "mine"
    refine Tab.set (td _ _) hj4 hi fun xs1 te=>?_
    repeat walk_at "mine"
    refine u_neg (hFl i j hj).symm ?_
    repeat walk_at "mine"
    refine Tab.getR te hi ?_
    repeat walk_at "mine"
    refine Tab.set te hi hj4 fun xs2 tf=>?_
    repeat walk_at "mine"
    refine i_add (c:=((num+1:Nat):Int)) rfl ?_
    repeat walk_at "mine"
    rw[←hFu i j hj] at tf
    exact ⟨num+1,⟨e0,e1,e2,e3,e4,e5,rfl,(tf.congr (tJ_next F hi hj4)).to fun _ _ h=>h,(setL_other (hNe i hi)).trans ((setL_other (hNe j hj4)).trans (hx' Nm _ lM)),((LE.trans ld hx').setL (hra j hj4)).setL (hra i hi)⟩,e7⟩
   ·clear b0 b1 b2 b3 b4 b5 b6 tb lN le tb' dk hT2
    intro τ2 J
    rw[show (List.map (fun i:Nat=>V.int (i:Int)) (List.range i)).length=i from (List.length_map ..).trans List.length_range] at J
    refine J.casesOn fun num B e7=>B.casesOn fun e0 e1 e2 e3 e4 e5 e6 tc lM ld=>?_
    repeat walk_at "mine"
    exact ⟨num,e0,e1,e2,e3,e4,e5,e6,tc.congr (tJ_end F hi),lM,ld⟩
  ·intro τ1 I
   refine I.casesOn fun num B=>B.casesOn fun b0 b1 b2 b3 b4 b5 b6 tb lN le=>?_
   repeat walk_at "mine"
   exact q _ R ra le.ext (Tab.to (tb.congr (tI_end F)) fun _ _ h=>h) hR' hra
 refine it_lst (i:=7) (xs:=ivs c) (leA Ce _ kC) hc7 (by decide) ?_
 repeat walk_at "mine"
 refine o_modE d2 (by decide) ?_
 refine o_addE (c:=((widN (c.getD 7 0):Nat):Int)) rfl ?_
 repeat walk_at "mine"
 exact fin _ hra hNe _ ⟨rfl,rfl,rfl,rfl,rfl,rfl,rfl,tab.to fun _ _ h=>h,lNm,leA⟩
theorem table_sound (W:Wk C) (hG:C.gOk=AllBare):FnSound C 7 W.a__law_table T_table:=
 FnSound.weak (fnAt_sound (m:=3) W W.f__law_table (W_law_table (k:=6) W (entry_sound W hG)).2 (fun pm cd doc vs h=>by
    obtain ⟨a,b,c,rfl⟩:=bind3 h
    rfl) (by kernel_rfl)) fun ds Q σ t=>con_table W _ ds Q σ t
end
end
section
open PySem PySem.Spec PySem.Calls PyProof.Rows PySem.W
section
variable {C:Ctx} {k:Nat}
theorem rgn2 {a n:Nat} (h:a≤n):(Builtin.Range.rangeSize (a:Int) n 1).toNat=n-a:=by
 delta Builtin.Range.rangeSize
 rw[if_pos (by decide),Int.ediv_one]
 by_cases c:(a:Int)<n
 ·rw[if_pos c];lia
 ·rw[if_neg c];lia
theorem rgv2 (a m:Nat):rangeVals (a:Int) 1 m=(List.range m).map fun t=>V.int ((a+t:Nat):Int):=by
 unfold rangeVals
 refine List.map_congr_left fun i _=>congrArg V.int ?_
 rw[Int.mul_one];rfl
theorem p_rg2 {QI:List V→(St→Prop)→St→Prop} {σ:St} {a n:Nat} (h:a≤n) (hn:n≤1000) (q:QI ((List.range (n-a)).map fun t=>V.int ((a+t:Nat):Int)) (fun _=>True) σ):RGo [.int (a:Int),.int (n:Int)] QI σ:=
 ⟨a,n,1,.two,⟨by lia,by lia,by lia,by lia,by decide,by decide⟩,by rw[rgn2 h,rgv2];exact q⟩
theorem abs_bits (a:Int):a.natAbs<2^Builtin.Int.intBits a:=by
 rw[bits_abs];exact n_bits.mp (Nat.le_refl _)
theorem bits_le_of {a:Int} {m:Nat} (h:a.natAbs<2^m):Builtin.Int.intBits a≤m:=by
 rw[bits_abs];exact bits_of h
theorem bits_mul (a b:Int):Builtin.Int.intBits (a*b)≤Builtin.Int.intBits a+Builtin.Int.intBits b:=by
 refine bits_le_of ?_
 rw[Int.natAbs_mul,Nat.pow_add]
 exact Nat.mul_lt_mul'' (abs_bits a) (abs_bits b)
theorem bits_add' {a b:Int} {m:Nat} (ha:Builtin.Int.intBits a≤m) (hb:Builtin.Int.intBits b≤m):Builtin.Int.intBits (a+b)≤m+1:=by
 refine bits_le_of ?_
 have h1:=Nat.lt_of_lt_of_le (abs_bits a) (Nat.pow_le_pow_right (by decide) ha)
 have h2:=Nat.lt_of_lt_of_le (abs_bits b) (Nat.pow_le_pow_right (by decide) hb)
 rw[Nat.pow_succ]
 lia
theorem bits_sub' {a b:Int} {m:Nat} (ha:Builtin.Int.intBits a≤m) (hb:Builtin.Int.intBits b≤m):Builtin.Int.intBits (a-b)≤m+1:=by
 rw[Int.sub_eq_add_neg]
 exact bits_add' ha (by rw[bits_neg];exact hb)
theorem bits_mul' {a b:Int} {m n:Nat} (ha:Builtin.Int.intBits a≤m) (hb:Builtin.Int.intBits b≤n):Builtin.Int.intBits (a*b)≤m+n:=Nat.le_trans (bits_mul a b) (Nat.add_le_add ha hb)
theorem fmod_abs {a D:Int} (hD:D≠0):(a.fmod D).natAbs<D.natAbs:=by
 by_cases c:0<D
 ·have h1:=Int.fmod_nonneg_of_pos a c
  have h2:=Int.fmod_lt_of_pos a c
  lia
 ·have h1:=Int.fmod_nonneg_of_pos (-a) (b:= -D) (by walk_at "a")
  have h2:=Int.fmod_lt_of_pos (-a) (b:= -D) (by walk_at "a")
  have h3:=(fdiv_neg2 (a:=a) (b:=D)).2
  lia
theorem div_exact {D t draw:Int} (hD:D≠0):(t*D+draw.fmod D).fdiv D=t∧(t*D+draw.fmod D).fmod D=draw.fmod D:=by
 have h1:(t*D+draw.fmod D).fdiv D=t+(draw.fmod D).fdiv D:=by
  rw[Int.add_comm,Int.add_mul_fdiv_right _ _ hD,Int.add_comm]
 have h2:(draw.fmod D).fdiv D=0:=by
  have e1:=Int.mul_fdiv_add_fmod (draw.fmod D) D
  have e2:(draw.fmod D).fmod D=draw.fmod D:=Int.fmod_fmod_of_dvd draw (Int.dvd_refl D)
  rw[e2] at e1
  have e3:D*(draw.fmod D).fdiv D=0:=by walk_at "a"
  exact (Int.mul_eq_zero.mp e3).resolve_left hD
 have h3:(t*D+draw.fmod D).fdiv D=t:=by rw[h1,h2,Int.add_zero]
 refine ⟨h3,?_⟩
 rw[Int.fmod_def,h3,Int.mul_comm];lia
theorem Tab.getE {R:Addr} {ra:Nat→Addr} {M:Nat→Nat→Int} {τ:St} (h:Tab R ra M τ) {i j:Nat} (hi:i<4) (hj:j<4) {v:Int} (e:M i j=v) {Q:V→St→Prop} (q:Q (.int v) τ):itPT (.lst (ra i)) (.int (j:Int)) Q τ:=by
 subst e;exact h.get hi hj q
theorem it_tup0 {x:V} {l:List V} {Q:V→St→Prop} {σ:St} (q:Q x σ):itPT (.tup (x::l)) (.int 0) Q σ:=
 .tup ⟨by decide,by decide⟩ (idx_nn (i:=0) (Nat.succ_pos _)) rfl q
theorem c_neTup {a b:Int} {QB:Bool→St→Prop} {σ:St} (q:QB false σ):cmpPT .NotEq (.tup [.int a,.int b]) (.tup [.int a,.int b]) QB σ:=by
 have hl:(PyData.tuple [.int a,.int b]).canLay0=true:=by
  rw[PyData.canLay0,PyData.canLayAll0,PyData.canLayAll0,PyData.canLayAll0,PyData.canLay0,PyData.canLay0];rfl
 refine .ne (d:= .tuple [.int a,.int b]) (e:= .tuple [.int a,.int b]) rfl rfl hl hl ?_
 rw[SeqAt.eqv_refl _ hl]
 exact q
inductive T_cleared (ds:List V) (Q:V→St→Prop) (σ:St):Prop
 |mk (R:Addr) (ra:Nat→Addr) (ex:Nat) (draw:Int) (A:Nat→Nat→Nat→Int) (ah:Nat→Int) (h1:ds=[.lst R,.int (ex:Int),.int draw]) (h2:ex≤2663) (h3:Tab R ra (A 0) σ) (h4:(∀k i j,k<3→k<i→i<4→k<j→j<4→A k k k*A k i j-A k i k*A k k j=ah k*A (k+1) i j)) (h5:(∀k i j,k<3→ ¬(k<i∧k<j)→A (k+1) i j=A k i j)) (h6:ah 0=1) (h7:(∀k,k<3→ah (k+1)=A (k+1) k k)) (h8:(∀k,k<3→ah k≠0)) (h9:(∀k i j,k<3→Builtin.Int.intBits (A k i j)≤11420)) (h10:(∀k,k<3→Builtin.Int.intBits (ah k)≤11420)) (h11: ∀σ',(∀b xs,(∀k,k<4→b≠ra k)→σ.lists b=some xs→σ'.lists b=some xs)→σ'.vars=σ.vars→σ'.ro=σ.ro→Q (.int (A 3 3 3)) σ'):T_cleared ds Q σ
noncomputable def mx (A:Nat→Nat→Nat→Int) (k i j:Nat):Nat→Nat→Int:=fun a b=>if k<a∧k<b∧(a<i∨(a=i∧b<j)) then A (k+1) a b else A k a b
theorem mx_no {A:Nat→Nat→Nat→Int} {k i j a b:Nat} (h:k<a→k<b→(a<i∨(a=i∧b<j))→False):mx A k i j a b=A k a b:=if_neg fun z=>h z.1 z.2.1 z.2.2
theorem mx_start (A:Nat→Nat→Nat→Int) (k a b:Nat):A k a b=mx A k (k+1) (k+1) a b:=(mx_no fun h1 h2 h3=>h3.elim (fun z=>Nat.lt_irrefl _ (Nat.lt_of_lt_of_le h1 (Nat.lt_succ_iff.mp z))) fun z=>Nat.lt_irrefl _ (Nat.lt_of_lt_of_le h2 (Nat.lt_succ_iff.mp z.2))).symm
theorem mx_row (A:Nat→Nat→Nat→Int) (k i a b:Nat) (hb:b<4):mx A k i 4 a b=mx A k (i+1) (k+1) a b:=by
 by_cases h:k<a∧k<b∧a≤i
 ·exact (if_pos ⟨h.1,h.2.1,(Nat.lt_or_eq_of_le h.2.2).imp_right fun e=>⟨e,hb⟩⟩).trans (if_pos ⟨h.1,h.2.1,.inl (Nat.lt_succ_of_le h.2.2)⟩).symm
 ·exact (mx_no fun h1 h2 h3=>h ⟨h1,h2,h3.elim Nat.le_of_lt fun z=>Nat.le_of_eq z.1⟩).trans (mx_no fun h1 h2 h3=>h3.elim (fun z=>h ⟨h1,h2,Nat.lt_succ_iff.mp z⟩) fun z=>Nat.lt_irrefl _ (Nat.lt_of_lt_of_le h2 (Nat.lt_succ_iff.mp z.2))).symm
theorem mx_end {A:Nat→Nat→Nat→Int} {k:Nat} (hA2: ∀i j,¬(k<i∧k<j)→A (k+1) i j=A k i j) (a b:Nat) (ha:a<4):mx A k 4 (k+1) a b=A (k+1) a b:=by
 by_cases h:k<a∧k<b
 ·exact if_pos ⟨h.1,h.2,.inl ha⟩
 ·exact (mx_no fun h1 h2 _=>h ⟨h1,h2⟩).trans (hA2 a b h).symm
theorem mx_upd {A:Nat→Nat→Nat→Int} {k i j:Nat} (hi:k<i) (hj:k<j) (a b:Nat):upd (mx A k i j) i j (A (k+1) i j) a b=mx A k i (j+1) a b:=by
 unfold upd
 by_cases c:a=i∧b=j
 ·rw[if_pos c,c.1,c.2]
  exact (if_pos ⟨hi,hj,.inr ⟨rfl,Nat.lt_succ_self j⟩⟩).symm
 ·rw[if_neg c]
  by_cases h:k<a∧k<b∧(a<i∨(a=i∧b<j))
  ·exact (if_pos h).trans (if_pos ⟨h.1,h.2.1,h.2.2.imp_right fun z=>⟨z.1,Nat.lt_succ_of_lt z.2⟩⟩).symm
  ·exact (if_neg h).trans (mx_no fun h1 h2 h3=>h ⟨h1,h2,h3.imp_right fun z=>⟨z.1,Nat.lt_of_le_of_ne (Nat.lt_succ_iff.mp z.2) fun e=>c ⟨z.1,e⟩⟩⟩).symm
inductive ClB (R:Addr) (ra:Nat→Addr) (draw fac x:Int) (M:Nat→Nat→Int) (σ τ:St):Prop
 |mk (v0:τ.vars 0=some (.lst R)) (v2:τ.vars 2=some (.int draw)) (v3:τ.vars 3=some (.int fac)) (v4:τ.vars 4=some (.int x)) (tb:Tab R ra M τ) (fr: ∀b xs,(∀k,k<4→b≠ra k)→σ.lists b=some xs→τ.lists b=some xs):ClB R ra draw fac x M σ τ
theorem ClB.to {R:Addr} {ra:Nat→Addr} {draw fac x:Int} {M M':Nat→Nat→Int} {σ τ τ':St} (h:ClB R ra draw fac x M σ τ) (e: ∀a b,a<4→b<4→M a b=M' a b) (h0:τ'.vars 0=τ.vars 0) (h2:τ'.vars 2=τ.vars 2) (h3:τ'.vars 3=τ.vars 3) (h4:τ'.vars 4=τ.vars 4) (l: ∀b xs,τ.lists b=some xs→τ'.lists b=some xs):ClB R ra draw fac x M' σ τ':=
 h.casesOn fun v0 v2 v3 v4 tb fr=>⟨h0.trans v0,h2.trans v2,h3.trans v3,h4.trans v4,(tb.congr e).to l,fun b xs hb e=>l b xs (fr b xs hb e)⟩
noncomputable def ClR (R:Addr) (ra:Nat→Addr) (draw fac:Int) (A:Nat→Nat→Nat→Int) (ah:Nat→Int) (k:Nat) (σ:St) (t:Nat) (τ:St):Prop:=ClB R ra draw fac (ah k) (mx A k (k+1+t) (k+1)) σ τ∧τ.vars 5=some (.int (k:Int))
noncomputable def ClC (R:Addr) (ra:Nat→Addr) (draw fac:Int) (A:Nat→Nat→Nat→Int) (ah:Nat→Int) (k i:Nat) (σ:St) (u:Nat) (τ:St):Prop:=ClB R ra draw fac (ah k) (mx A k i (k+1+u)) σ τ∧τ.vars 5=some (.int (k:Int))∧τ.vars 6=some (.int (i:Int))
theorem bnd27 {x y m n:Nat} (hx:x≤m) (hy:y≤n) (h:m+n≤2^27):x+y≤2^27:=Nat.le_trans (Nat.add_le_add hx hy) h
theorem pow3 (ex:Nat) (hex:ex≤2663):Builtin.Int.intBits ((3:Int)^ex)≤5327∧(3:Int)^ex≠0:=by
 refine ⟨?_,Int.pow_ne_zero (by decide)⟩
 have:=intBits_pow_le (show Builtin.Int.intBits (3:Int)≤2 from Nat.le_of_ble_eq_true (by kernel_rfl)) ex
 lia
theorem con_cleared (W:Wk C) (h:FnSound C k W.a_int_divmod (T_idmL 2)) (ds:List V) (Q:V→St→Prop) (σ:St) (t:T_cleared ds Q σ):fnCon 3 (W_law_cleared W h).1 ds Q σ:=by
 obtain ⟨R,ra,ex,draw,A,ah,rfl,hex,tab,hA,hA2,ha0,haS,hane,hAb,hab,q⟩:=t
 refine fn_con rfl ?_
 unfold W_law_cleared
 dsimp only
 have hf:=pow3 ex hex
 generalize hT:(ptSeq (ptFor _ _ _) _:PT Fl)=T
 repeat walk_at "mine"
 refine o_pow (Int.natCast_nonneg ex) (Int.ofNat_le.mpr (Nat.le_trans hex (by decide))) (by decide) ?_
 rw[Int.toNat_natCast]
 generalize (3:Int)^ex=fac at hf
 repeat walk_at "mine"
 rw[←hT]
 repeat walk_at "mine"
 refine p_rg1 (n:=3) rfl (by decide) ?_
 refine ForOk.mk (fun k τ=>ClB R ra draw fac (ah k) (A k) σ τ) ?_ (fun _ _ _ _=>trivial) ?_ ?_
 ·exact ⟨rfl,rfl,rfl,by rw[ha0];exact rfl,tab.to fun _ _ h=>h,fun _ _ _ h=>h⟩
 ·intro k' v τ hx cb
  have hr:=range_int hx
  rw[hr.2]
  replace hr:=hr.1
  have hk4:k'<4:=Nat.lt_succ_of_lt hr
  have hk5:k'+1≤4:=hk4
  clear hx
  generalize hT2:(ptSeq (ptAsgs [atName 4] _) _:PT Fl)=T2
  refine cb.casesOn fun v0 v2 v3 v4 tb fr=>?_
  repeat walk_at "mine"
  refine o_addE (c:=((k'+1:Nat):Int)) rfl ?_
  repeat walk_at "mine"
  refine p_rg2 (a:=k'+1) (n:=4) hk5 (by decide) ?_
  refine ForOk.mk (ClR R ra draw fac A ah k' σ) ⟨cb.to (fun a b _ _=>mx_start A k' a b) rfl rfl rfl rfl fun _ _ h=>h,rfl⟩ (fun _ _ _ _=>trivial) ?_ ?_
  ·intro t v τ1 hx cr
   have ht:=range_int2 hx
   rw[ht.2]
   have hi4:k'+1+t<4:=Nat.lt_sub_iff_add_lt'.mp ht.1
   have hi1:k'<k'+1+t:=Nat.lt_of_lt_of_le (Nat.lt_succ_self k') (Nat.le_add_right _ _)
   clear hx ht cb v0 v2 v3 v4 tb fr
   refine cr.elim fun cb w5=>cb.casesOn fun v0 v2 v3 v4 tb fr=>?_
   repeat walk_at "mine"
   refine o_addE (c:=((k'+1:Nat):Int)) rfl ?_
   repeat walk_at "mine"
   refine p_rg2 (a:=k'+1) (n:=4) hk5 (by decide) ?_
   refine ForOk.mk (ClC R ra draw fac A ah k' (k'+1+t) σ) ⟨cb.to (fun a b _ _=>rfl) rfl rfl rfl rfl fun _ _ h=>h,w5,rfl⟩ (fun _ _ _ _=>trivial) ?_ ?_
   ·intro u v τ2 hx cc
    have hu:=range_int2 hx
    rw[hu.2]
    have hj4:k'+1+u<4:=Nat.lt_sub_iff_add_lt'.mp hu.1
    have hj1:k'<k'+1+u:=Nat.lt_of_lt_of_le (Nat.lt_succ_self k') (Nat.le_add_right _ _)
    clear hx hu cb v0 v2 v3 v4 tb fr cr w5
    unfold ClC at cc⊢
    rw[←Nat.add_assoc]
    generalize k'+1+t=i at hi4 hi1 cc⊢
    generalize k'+1+u=j at hj4 hj1 cc⊢
    refine cc.elim fun cb z=>z.elim fun z5 z6=>cb.casesOn fun z0 z2 z3 z4 td fr2=>?_
    have td1:Tab R ra (mx A k' i j) (setV τ2 7 (V.int (j:Int))):=td.to fun _ _ h=>h
    have hmain:=hA k' i j hr hi1 hi4 hj1 hj4
    generalize hTA:(ptSeq (ptAsgs [atSub _ _] _) _:PT Fl)=TA
    repeat walk_at "mine"
    refine td1.getR hk4 ?_
    repeat walk_at "mine"
    refine td1.getE hk4 hk4 (mx_no fun h=>absurd h (Nat.lt_irrefl _)) ?_
    repeat walk_at "mine"
    refine td1.getR hi4 ?_
    repeat walk_at "mine"
    refine td1.getE hi4 hj4 (mx_no fun _ _ h=>h.elim (Nat.lt_irrefl _) fun h=>Nat.lt_irrefl _ h.2) ?_
    refine o_mulE rfl (mulOk (m:=0) (bnd27 (hAb k' k' k' hr) (hAb k' i j hr) (by decide))) ?_
    repeat walk_at "mine"
    refine td1.getR hi4 ?_
    repeat walk_at "mine"
    refine td1.getE hi4 hk4 (mx_no fun _ h=>absurd h (Nat.lt_irrefl _)) ?_
    repeat walk_at "mine"
    refine td1.getR hk4 ?_
    repeat walk_at "mine"
    refine td1.getE hk4 hj4 (mx_no fun h=>absurd h (Nat.lt_irrefl _)) ?_
    refine o_mulE rfl (mulOk (m:=0) (bnd27 (hAb k' i k' hr) (hAb k' k' j hr) (by decide))) ?_
    refine o_subE hmain ?_
    repeat walk_at "mine"
    have fin: ∀(QF:Fl→St→Prop) (τ':St),(∀τ,(ClB R ra draw fac (ah k') (mx A k' i (j+1)) σ τ∧τ.vars 5=some (.int (k':Int))∧τ.vars 6=some (.int (i:Int)))→QF .next τ)→ClB R ra draw fac (ah k') (mx A k' i j) σ τ'→τ'.vars 5=some (.int (k':Int))→τ'.vars 6=some (.int (i:Int))→τ'.vars 7=some (.int (j:Int))→τ'.vars 8=some (.int (A (k'+1) i j))→TA QF τ':=by
     clear hmain td1 cb z0 z2 z3 z4 td fr2 z5 z6 cc hA hAb
     intro QF τ' hQ cb a5 a6 a7 a8
     rw[←hTA]
     refine cb.casesOn fun a0 a2 a3 a4 te fr=>?_
     repeat walk_at "mine"
     refine te.getR hi4 ?_
     repeat walk_at "mine"
     refine te.set hi4 hj4 fun xs tf=>?_
     repeat walk_at "mine"
     exact hQ _ ⟨⟨a0,a2,a3,a4,tf.congr fun a b _ _=>mx_upd hi1 hj1 a b,fun b ys hb e=>(setL_other (hb i hi4)).trans (fr b ys hb e)⟩,a5,a6⟩
    by_cases c0:k'=0
    ·subst c0
     refine c_gtF (by decide) ?_
     repeat walk_at "mine"
     refine fin _ _ (fun τ h=>h) (cb.to (fun _ _ _ _=>rfl) rfl rfl rfl rfl fun _ _ h=>h) z5 z6 rfl ?_
     rw[ha0,Int.one_mul];exact rfl
    ·refine c_gtT (Int.ofNat_lt.mpr (Nat.pos_of_ne_zero c0)) ?_
     have hD:ah k'*fac≠0:=Int.mul_ne_zero (hane k' hr) hf.2
     have x12:=div_exact (t:=A (k'+1) i j) (draw:=draw) hD
     have hDb:=bits_mul' (hab k' hr) hf.1
     have hrb:Builtin.Int.intBits (draw.fmod (ah k'*fac))≤11420+5327:=Nat.le_trans (bits_mono (Nat.le_of_lt (fmod_abs hD))) hDb
     have htopb:Builtin.Int.intBits (ah k'*A (k'+1) i j)≤11420+11420+1:=by
      rw[←hmain]
      exact bits_sub' (bits_mul' (hAb k' k' k' hr) (hAb k' i j hr)) (bits_mul' (hAb k' i k' hr) (hAb k' k' j hr))
     have heq:ah k'*A (k'+1) i j*fac+draw.fmod (ah k'*fac)=A (k'+1) i j*(ah k'*fac)+draw.fmod (ah k'*fac):=by
      rw[Int.mul_comm (ah k'),Int.mul_assoc]
     have h5:=bits_mul' htopb hf.1
     have h6:Builtin.Int.intBits (A (k'+1) i j*(ah k'*fac)+draw.fmod (ah k'*fac))≤32000:=heq▸Nat.le_trans (bits_add' h5 (Nat.le_trans hrb (by decide))) (by decide)
     clear hmain hA hAb
     repeat walk_at "mine"
     refine o_mulE rfl (mulOk (m:=0) (bnd27 (hab k' hr) hf.1 (by decide))) ?_
     refine o_mod hD ?_
     repeat walk_at "mine"
     refine o_mulE rfl (mulOk (m:=0) (bnd27 htopb hf.1 (by decide))) ?_
     repeat walk_at "mine"
     refine o_addE heq ?_
     repeat walk_at "mine"
     refine o_mulE rfl (mulOk (m:=0) (bnd27 (hab k' hr) hf.1 (by decide))) ?_
     repeat walk_at "mine"
     refine ⟨_,_,rfl,hD,fun h=>absurd h (by decide),fun h=>absurd h (by decide),Nat.le_refl _,h6,Nat.le_trans hDb (by decide),fun σ' x'=>?_⟩
     rw[x12.1,x12.2]
     repeat walk_at "mine"
     refine it_tup0 ?_
     repeat walk_at "mine"
     refine ⟨Nat.le_of_ble_eq_true rfl,?_⟩
     refine c_neTup ?_
     repeat walk_at "mine"
     refine it_tup0 ?_
     repeat walk_at "mine"
     exact fin _ _ (fun τ h=>h) (cb.to (fun _ _ _ _=>rfl) rfl rfl rfl rfl fun b xs h=>x'.lists b xs h) z5 z6 rfl rfl
   ·intro τ2 cc
    replace cc:=cc
    unfold ClC at cc
    rw[List.length_map,List.length_range,Nat.add_sub_cancel' hk5] at cc
    repeat walk_at "mine"
    exact ⟨cc.1.to (fun a b _ hb=>mx_row A k' _ a b hb) rfl rfl rfl rfl fun _ _ h=>h,cc.2.1⟩
  ·intro τ1 cr
   unfold ClR at cr
   rw[List.length_map,List.length_range,Nat.add_sub_cancel' hk5] at cr
   rw[←hT2]
   clear cb v0 v2 v3 v4 tb fr
   have cb:=cr.1.to (fun a b ha _=>mx_end (fun i j h=>hA2 k' i j hr h) a b ha) rfl rfl rfl rfl fun _ _ h=>h
   refine cb.casesOn fun v0 v2 v3 v4 tb fr=>?_
   have w5:=cr.2
   repeat walk_at "mine"
   refine tb.getR hk4 ?_
   repeat walk_at "mine"
   refine tb.get hk4 hk4 ?_
   repeat walk_at "mine"
   exact ⟨v0,v2,v3,by rw[haS k' hr];exact rfl,tb.to fun _ _ h=>h,fr⟩
 ·intro τ cb
  refine cb.casesOn fun v0 v2 v3 v4 tb fr=>?_
  rw[List.length_map,List.length_range] at tb
  repeat walk_at "mine"
  refine tb.getR (i:=3) (by decide) ?_
  repeat walk_at "mine"
  refine tb.get (i:=3) (j:=3) (by decide) (by decide) ?_
  exact q _ fr rfl rfl
theorem cleared_sound (W:Wk C) (N:Wn C W):FnSound C 22 W.a__law_cleared T_cleared:=
 FnSound.weak (fnAt_sound (m:=3) W W.f__law_cleared (W_law_cleared (k:=21) W (idm_sound W N 2)).2 (fun pm cd doc vs h=>by
    obtain ⟨a,b,c,rfl⟩:=bind3 h
    rfl) (by kernel_rfl)) fun ds Q σ t=>con_cleared W _ ds Q σ t
end
end
section
open PySem PySem.Spec PySem.Calls PyProof.Rows PySem.W
section
variable {C:Ctx} {k:Nat} {sc:Scope} {env:Env} {σ σ₁ σ₂:St} {s s₁:Shared}
noncomputable def St.py2 (σ:St):V→Option PyData
 | .lst a=>match σ.lists a with
  |some xs=>(allSome σ.py xs).map .list
  |Option.none=>Option.none
 |_=>Option.none
theorem reads2 (R:Rel C env σ s) {x:V} {v:Value} {d:PyData} (r:RelV C s.heap x v) (e:σ.py2 x=some d): ∃as,Reads s.heap v d as∧d.depth≤3:=by
 unfold St.py2 at e
 split at e
 ·rename_i a
  split at e
  ·rename_i xs hx
   cases q:allSome σ.py xs with
   |none=>rw[q] at e;cases e
   |some ds=>
    rw[q] at e;cases e
    cases rel_lst r
    obtain ⟨items,⟨n,l1⟩,l2,_⟩:=R.lists a xs hx
    obtain ⟨as,q1,q2⟩:=readsAll (N:=2) (fun r e=>readsL R r e) l2 q
    exact ⟨_,.list l1 rfl rfl q1,by simp only[PyData.depth];lia⟩
  ·cases e
 ·cases e
inductive Eq2Go (x y:V) (Q:Bool→St→Prop) (σ:St):Prop
 |mk (d e:PyData) (h1:σ.py2 x=some d) (h2:σ.py2 y=some e) (h3:d.canLay0=true) (h4:e.canLay0=true) (h5:Q (PyData.eqv d e) σ):Eq2Go x y Q σ
noncomputable def ptEq2 (P R:PT V):PT Bool:=fun Q σ=>P (fun x σ₁=>R (fun y σ₂=>Eq2Go x y Q σ₂) σ₁) σ
theorem p_eq2 {P R:PT V} {Q:Bool→St→Prop} {σ:St} (q:P (fun x σ₁=>R (fun y σ₂=>Eq2Go x y Q σ₂) σ₁) σ):ptEq2 P R Q σ:=q
theorem s_eq2 (K:CtxOk C) {P R:PT V} {l r:Expr} {pos:Pos} (hl:SoundE C k sc P l) (hr:SoundE C k sc R r) (hm:behindInMarks .Eq r=false):
  SoundB C k sc (ptEq2 P R) (.Compare l [.Eq] [r] pos):= .mk fun env A σ s Q hs hE hL hR q=>by
  refine wpAny_isTrue_Compare1 (wpAny_mono (hl.run hs hE hL hR q) (fun a s₁ ⟨x,σ₁,r1,R1,S1,v1,q⟩=>?_) fun _ _ x=>x) hm
  refine wpAny_mono (hr.run hs hE hL R1 q) (fun b s₂ ⟨y,σ₂,r2,R2,S2,v2,q⟩=>?_) fun _ _ x=>x
  obtain ⟨d,e,e1,e2,c1,c2,q⟩:=q
  obtain ⟨as,q1,q2⟩:=reads2 R2 (S2.relE K R1 r1) e1
  obtain ⟨bs,q3,q4⟩:=reads2 R2 r2 e2
  refine wpAny_mono (PySem.SeqAt.compareEq_reads (Q:=PostC C env σ₂ s₂ Q) q1 q3 c1 c2 (by have:=units_ok hL (n:=50) (by decide);lia) ⟨_,rfl,.now R2 q⟩) (fun v s₃ ⟨b,e,p⟩=>?_) fun _ _ x=>x
  subst e
  exact wpAny_truthy_bool ((p.back S2 v2).back S1 v1)
noncomputable def Wlaw2 (W:Wk C) {T__int2digits:Con} (h__int2digits:FnSound C k W.a__int2digits T__int2digits) {T__law_cells:Con} (h__law_cells:FnSound C k W.a__law_cells T__law_cells) {T__law_cleared:Con} (h__law_cleared:FnSound C k W.a__law_cleared T__law_cleared) {T__law_due:Con} (h__law_due:FnSound C k W.a__law_due T__law_due) {T__law_table:Con} (h__law_table:FnSound C k W.a__law_table T__law_table) {T__law_typed:Con} (h__law_typed:FnSound C k W.a__law_typed T__law_typed) {T__law_word:Con} (h__law_word:FnSound C k W.a__law_word T__law_word) {T__levenshtein_distance:Con} (h__levenshtein_distance:FnSound C k W.a__levenshtein_distance T__levenshtein_distance) {T_in_table_b1:Con} (h_in_table_b1:FnSound C k W.a_in_table_b1 T_in_table_b1) {T_map_table_b3:Con} (h_map_table_b3:FnSound C k W.a_map_table_b3 T_map_table_b3):{P:PT Fl // SoundS C k Sclaw P (fdBody (st 32))}:=⟨_,
(s_cons (v_asg1 W (v_ac W 1 Sclaw_1) (v_call W W.f__law_cells h__law_cells Sclaw_11 (.c (v_loc 0 Sclaw_0) rfl .nil)) rfl rfl rfl)
(s_cons (v_asg1 W (v_an W 2 Sclaw_2) (v_call W W.f__law_word h__law_word Sclaw_12 (.c (v_it W (v_cel 1 Sclaw_1) s_int rfl) rfl .nil)) rfl rfl rfl)
(s_cons (v_asg1 W (v_an W 3 Sclaw_3) (s_list W.K (.c s_int rfl (.c s_int rfl (.c s_int rfl (.c s_int rfl (.c s_int rfl (.c s_int rfl (.c s_int rfl (.c s_int rfl (.c s_int rfl (.c s_int rfl (.c s_int rfl (.c s_int rfl (.c s_int rfl (.c s_int rfl (.c s_int rfl (.c s_int rfl .nil))))))))))))))))) rfl rfl rfl)
(s_cons (v_asg1 W (v_an W 4 Sclaw_4) (v_bi W .chr W.m_chr W.b_chr Sclaw_13 (.c (v_it W (v_loc 3 Sclaw_3) (s_bin W.K (s_bin W.K (v_it W (v_cel 1 Sclaw_1) s_int rfl) s_int) s_int) rfl) rfl .nil)) rfl rfl rfl)
(s_cons (v_asg1 W (v_an W 5 Sclaw_5) (s_bin W.K (v_call W W.f__law_typed h__law_typed Sclaw_14 (.c (v_loc 2 Sclaw_2) rfl (.c (v_it W (v_cel 1 Sclaw_1) s_int rfl) rfl .nil))) (v_loc 4 Sclaw_4)) rfl rfl rfl)
(s_cons (v_asg1 W (v_an W 6 Sclaw_6) (v_m1 W .join s_str (v_comp W [] [] (by kernel_rfl) (i_str W.K (v_loc 5 Sclaw_5)) (v_afn W 1 (.of (i:=1) (by kernel_rfl))) (.one (s_cmpB W.K (v_call W W.f_in_table_b1 h_in_table_b1 (.of (i:=2) (by kernel_rfl)) (.c (v_loc 1 (.of (i:=1) (by kernel_rfl))) rfl .nil)) s_bool rfl)) (v_call W W.f_map_table_b3 h_map_table_b3 (.of (i:=3) (by kernel_rfl)) (.c (v_loc 1 (.of (i:=1) (by kernel_rfl))) rfl .nil)) rfl) rfl rfl rfl rfl) rfl rfl rfl)
(s_cons (s_if (s_cmpB W.K (v_loc 6 Sclaw_6) (s_bin W.K (v_m1 W .join s_str (v_loc 2 Sclaw_2) rfl rfl rfl rfl) (v_loc 4 Sclaw_4)) rfl)
(s_cons (s_ret s_bool)
s_nil)
s_nil)
(s_cons (s_if (s_boolop (.cons (s_cmpB W.K (v_call W W.f__levenshtein_distance h__levenshtein_distance Sclaw_15 (.c (v_m0 W .upper (v_it W (v_loc 2 Sclaw_2) s_int rfl) rfl rfl rfl) rfl (.c (v_it W (v_loc 2 Sclaw_2) s_int rfl) rfl (.c s_int rfl .nil)))) s_int rfl) (.cons (s_cmpB W.K (v_call W W.f__levenshtein_distance h__levenshtein_distance Sclaw_15 (.c s_str rfl (.c s_str rfl (.c s_int rfl .nil)))) s_int rfl) .nil)))
(s_cons (s_ret s_bool)
s_nil)
s_nil)
(s_cons (s_if (s_boolop (.cons (s_cmpB W.K (v_call W W.f__levenshtein_distance h__levenshtein_distance Sclaw_15 (.c (s_bin W.K s_str s_int) rfl (.c s_str rfl (.c s_int rfl .nil)))) s_int rfl) (.cons (s_cmpB W.K (v_call W W.f__levenshtein_distance h__levenshtein_distance Sclaw_15 (.c (s_bin W.K (s_bin W.K (s_bin W.K s_str s_int) s_str) (s_bin W.K s_str s_int)) rfl (.c s_str rfl (.c s_int rfl .nil)))) s_int rfl) .nil)))
(s_cons (s_ret s_bool)
s_nil)
s_nil)
(s_cons (v_asgComp W [none,none,some 1] [] (by kernel_rfl) 7 Sclaw_7 (v_range W Sclaw_16 (.c s_int rfl .nil)) (v_afn W 1 (.of (i:=1) (by kernel_rfl))) .none (s_bin W.K s_int (s_bin W.K (v_it W (v_cel 2 (.of (i:=2) (by kernel_rfl))) (s_bin W.K s_int (v_loc 1 (.of (i:=1) (by kernel_rfl)))) rfl) (s_bin W.K s_int s_int))) rfl (fun env e=>by cases env;cases e;kernel_rfl))
(s_cons (v_asg1 W (v_an W 8 Sclaw_8) (v_call W W.f__law_table h__law_table Sclaw_17 (.c (v_loc 6 Sclaw_6) rfl (.c (v_loc 7 Sclaw_7) rfl (.c (v_cel 1 Sclaw_1) rfl .nil)))) rfl rfl rfl)
(s_cons (s_if (s_eq2 W.K (v_loc 8 Sclaw_8) (s_list W.K .nil) rfl)
(s_cons (s_ret s_bool)
s_nil)
s_nil)
(s_cons (v_asg1 W (v_an W 9 Sclaw_9) (s_bin W.K s_int (s_bin W.K (v_it W (v_cel 1 Sclaw_1) s_int rfl) s_int)) rfl rfl rfl)
(s_cons (s_if (s_boolop (.cons (s_cmpB W.K (v_call W W.f__int2digits h__int2digits Sclaw_18 (.c (s_bin W.K (s_bin W.K s_int (s_bin W.K s_int (v_loc 9 Sclaw_9))) s_int) rfl (.c (v_loc 9 Sclaw_9) rfl .nil))) (s_list W.K (.c (s_bin W.K (s_bin W.K s_int (v_loc 9 Sclaw_9)) s_int) rfl (.c (s_bin W.K (s_bin W.K s_int (v_loc 9 Sclaw_9)) s_int) rfl .nil))) rfl) (.cons (s_cmpB W.K (v_call W W.f__int2digits h__int2digits Sclaw_18 (.c s_int rfl (.c (v_loc 9 Sclaw_9) rfl .nil))) (s_list W.K .nil) rfl) .nil)))
(s_cons (s_ret s_bool)
s_nil)
s_nil)
(s_cons (v_asg1 W (v_an W 10 Sclaw_10) (v_call W W.f__law_cleared h__law_cleared Sclaw_19 (.c (v_loc 8 Sclaw_8) rfl (.c (s_bin W.K s_int (s_bin W.K (v_it W (v_cel 1 Sclaw_1) s_int rfl) s_int)) rfl (.c (v_it W (v_cel 1 Sclaw_1) s_int rfl) rfl .nil)))) rfl rfl rfl)
(s_cons (s_ret (s_cmp W.K (v_call W W.f__int2digits h__int2digits Sclaw_18 (.c (v_loc 10 Sclaw_10) rfl (.c (v_loc 9 Sclaw_9) rfl .nil))) (v_call W W.f__law_due h__law_due Sclaw_20 (.c (v_loc 6 Sclaw_6) rfl (.c (v_loc 7 Sclaw_7) rfl .nil))) rfl))
s_nil))))))))))))))))⟩
end
end
section
open PySem PySem.Spec PySem.Calls PyProof.Rows PySem.W
section
theorem lowerOf_tab:[102,105,115,116,70,73,83,84].all (fun c=>Unicode.lowerOf c==[low c]&& !(c==0x3A3))=true:=by decide+kernel
theorem lowerAt_okc {a:Array Nat} {i c:Nat} (h:a[i]? =some c) (hc:okc c=true):Unicode.lowerAt a i=[low c]:=by
 have:=List.all_eq_true.mp lowerOf_tab c (okc_mem hc)
 simp only[Bool.and_eq_true,beq_iff_eq,Bool.not_eq_true'] at this
 unfold Unicode.lowerAt
 rw[h]
 simp only
 rw[this.2,Bool.false_and]
 exact this.1
theorem lower_okc {l:List Nat} (h: ∀c∈l,okc c=true):Txt.lower (S l)=S (l.map low):=by
 show (⟨_⟩:Str)=_
 rw[placed_single (S l) _ low (fun i c hc=>lowerAt_okc (by
  rw[←Array.getElem?_toList];exact hc) (h c (by
   have:=List.mem_of_getElem? hc
   simpa [S] using this)))]
 show (⟨l.toArray.map low⟩:Str)=_
 rw[List.map_toArray];rfl
noncomputable def perms24:List (List Nat):=(List.range 4).flatMap fun a=>(List.range 3).flatMap fun b=>(List.range 2).map fun c=>ordN a b c
theorem ord_mem {a b c:Nat} (ha:a<4) (hb:b<3) (hc:c<2):ordN a b c∈perms24:=by
 unfold perms24
 exact List.mem_flatMap.mpr ⟨a,List.mem_range.mpr ha,List.mem_flatMap.mpr ⟨b,List.mem_range.mpr hb,List.mem_map.mpr ⟨c,List.mem_range.mpr hc,rfl⟩⟩⟩
noncomputable def gL (o:List Nat) (ch:Nat):Nat:=if ch=102 then o.getD 0 0 else if ch=105 then o.getD 1 0 else if ch=115 then o.getD 2 0 else o.getD 3 0
theorem perm_chk:perms24.all (fun o=>o.length==4&&L4.all (fun x=>decide (gL o x∈L4)&&L4.all fun y=>decide (gL o x=gL o y→x=y))&&L4.all fun y=>L4.any fun x=>gL o x==y)=true:=by decide+kernel
structure Ren (g:Nat→Nat):Prop where
 to: ∀x∈L4,g x∈L4
 inj: ∀x∈L4,∀y∈L4,g x=g y→x=y
 onto: ∀y∈L4,∃x∈L4,g x=y
theorem ren_of {o:List Nat} (h:o∈perms24):Ren (gL o):=by
 have:=List.all_eq_true.mp perm_chk o h
 simp only[Bool.and_eq_true,List.all_eq_true,List.any_eq_true,decide_eq_true_eq,beq_iff_eq] at this
 exact ⟨fun x hx=>(this.1.2 x hx).1,fun x hx y hy=>(this.1.2 x hx).2 y hy,this.2⟩
theorem word_ren {a b c d e f:Nat} (hd:d<7) (he:e<5) (hf:f<3):wordN a b c d e f=(wordN 0 0 0 d e f).map (gL (ordN a b c)):=by
 unfold wordN
 rw[List.map_map]
 refine List.map_congr_left fun j hj=>?_
 have:=(pat_of hd he hf).2 j hj
 have h4:j=1∨j=2∨j=3∨j=4:=by lia
 rcases h4 with rfl|rfl|rfl|rfl<;>rfl
noncomputable def gU (g:Nat→Nat) (c:Nat):Nat:=if c<97 then g (c+32)-32 else g c
theorem L4_97 {c:Nat} (h:c∈L4):97≤c∧c<123:=by rcases L4_of h with rfl|rfl|rfl|rfl<;>decide
theorem gU_low {g:Nat→Nat} {c:Nat} (h:c∈L4):gU g c=g c:=if_neg (by have:=L4_97 h;lia)
theorem gU_up {g:Nat→Nat} {c:Nat} (h:c∈L4):gU g (c-32)=g c-32:=by
 have:=L4_97 h
 unfold gU
 rw[if_pos (by lia)]
 congr 2;lia
theorem mem_ren {g:Nat→Nat} (R:Ren g) {l:Nat} {s:List Nat} (hl:l∈L4) (hs: ∀c∈s,c∈L4):g l∈s.map g↔l∈s:=by
 constructor
 ·intro h
  obtain ⟨m,hm,e⟩:=List.mem_map.mp h
  rw[←R.inj m (hs m hm) l hl e];exact hm
 ·exact fun h=>List.mem_map_of_mem h
theorem sg_ren {g:Nat→Nat} (R:Ren g) {l:Nat} {s:List Nat} (hl:l∈L4) (hs: ∀c∈s,c∈L4):sg (s.map g) (g l)=gU g (sg s l):=by
 unfold sg
 by_cases c:l∈s
 ·rw[if_pos c,if_pos ((mem_ren R hl hs).mpr c),gU_low hl]
 ·rw[if_neg c,if_neg (fun h=>c ((mem_ren R hl hs).mp h)),gU_up hl]
theorem bare_ren {g:Nat→Nat} (R:Ren g) {x y:Nat} (hx:x∈L4) (hy:y∈L4): ∀(w s:List Nat),(∀c∈w,c∈L4)→(∀c∈s,c∈L4)→bareN (g x) (g y) (s.map g) (w.map g)=(bareN x y s w).map (gU g)
 |[],_,_,_=>rfl
 |l::w,s,hw,hs=>by
  have hl:=hw l (by simp)
  have ih:=bare_ren R hx hy w (s++[l]) (fun c hc=>hw c (List.mem_cons_of_mem _ hc)) (fun c hc=>by
   rcases List.mem_append.mp hc with h|h
   ·exact hs c h
   ·rw[List.mem_singleton.mp h];exact hl)
  have e1:bareN (g x) (g y) (s.map g) ((l::w).map g)=(if g l∈[g x,g y] then [sg (s.map g) (g l)] else [])++bareN (g x) (g y) (s.map g++[g l]) (w.map g):=rfl
  have e2:bareN x y s (l::w)=(if l∈[x,y] then [sg s l] else [])++bareN x y (s++[l]) w:=rfl
  have e3:s.map g++[g l]=(s++[l]).map g:=by rw[List.map_append];rfl
  rw[e1,e2,e3,ih,List.map_append]
  congr 1
  have hm:g l∈[g x,g y]↔l∈[x,y]:=mem_ren (s:=[x,y]) R hl (by
   intro c hc
   simp only[List.mem_cons,List.not_mem_nil,or_false] at hc
   rcases hc with rfl|rfl
   ·exact hx
   ·exact hy)
  by_cases c:l∈[x,y]
  ·rw[if_pos c,if_pos (hm.mpr c),sg_ren R hl hs];rfl
  ·rw[if_neg c,if_neg (fun h=>c (hm.mp h))];rfl
theorem bare_symm (x y:Nat): ∀(w s:List Nat),bareN x y s w=bareN y x s w
 |[],_=>rfl
 |l::w,s=>by
  show (if l∈[x,y] then [sg s l] else [])++bareN x y (s++[l]) w=(if l∈[y,x] then [sg s l] else [])++bareN y x (s++[l]) w
  rw[bare_symm x y w]
  have:l∈[x,y]↔l∈[y,x]:=by
   simp only[List.mem_cons,List.not_mem_nil,or_false];lia
  by_cases c:l∈[x,y]
  ·rw[if_pos c,if_pos (this.mp c)]
  ·rw[if_neg c,if_neg (fun h=>c (this.mpr h))]
structure RenC (γ:Nat→Nat) (P:Nat→Prop):Prop where
 inj: ∀x,P x→ ∀y,P y→γ x=γ y→x=y
 cost: ∀x,P x→ ∀y,P y→cost (γ x) (γ y)=cost x y
theorem stripP_ren {γ:Nat→Nat} {P:Nat→Prop} (R:RenC γ P): ∀a b:List Nat,(∀c∈a,P c)→(∀c∈b,P c)→stripP (a.map γ) (b.map γ)=((stripP a b).1.map γ,(stripP a b).2.map γ)
 |x::xs,y::ys,ha,hb=>by
  have e1:stripP ((x::xs).map γ) ((y::ys).map γ)=if γ x=γ y then stripP (xs.map γ) (ys.map γ) else (γ x::xs.map γ,γ y::ys.map γ):=rfl
  have e2:stripP (x::xs) (y::ys)=if x=y then stripP xs ys else (x::xs,y::ys):=rfl
  rw[e1,e2]
  by_cases c:x=y
  ·rw[if_pos c,if_pos (by rw[c]),stripP_ren R xs ys (fun d hd=>ha d (List.mem_cons_of_mem _ hd)) (fun d hd=>hb d (List.mem_cons_of_mem _ hd))]
  ·rw[if_neg c,if_neg (fun h=>c (R.inj x (ha x (by simp)) y (hb y (by simp)) h))];rfl
 |[],ys,_,_=>by unfold stripP;simp
 |x::xs,[],_,_=>by simp[stripP]
theorem lrow_ren {γ:Nat→Nat} {P:Nat→Prop} (R:RenC γ P) {bc:Nat} (hb:P bc): ∀(a rs:List Nat) (d r m:Nat),(∀c∈a,P c)→lrow (γ bc) (a.map γ) rs d r m=lrow bc a rs d r m
 |[],rs,d,r,m,_=>by cases rs<;>rfl
 |c::cs,[],d,r,m,_=>rfl
 |c::cs,q::rs,d,r,m,ha=>by
  rw[List.map_cons]
  unfold lrow
  rw[R.cost bc hb c (ha c (by simp))]
  simp only
  rw[lrow_ren R hb cs rs _ _ _ fun e he=>ha e (List.mem_cons_of_mem _ he)]
theorem lout_ren {γ:Nat→Nat} {P:Nat→Prop} (R:RenC γ P) {a:List Nat} (ha: ∀c∈a,P c) {m:Nat}: ∀(b:List Nat) (i:Nat) (rs:List Nat) (r:Nat),(∀c∈b,P c)→lout (a.map γ) m (b.map γ) i rs r=lout a m b i rs r
 |[],_,_,_,_=>rfl
 |c::b,i,rs,r,hb=>by
  rw[List.map_cons]
  unfold lout
  rw[lrow_ren R (hb c (by simp)) a rs _ _ _ ha]
  simp only
  rw[lout_ren R ha b _ _ _ fun e he=>hb e (List.mem_cons_of_mem _ he)]
theorem lev3_ren {γ:Nat→Nat} {P:Nat→Prop} (R:RenC γ P) {a b:List Nat} (ha: ∀c∈a,P c) (hb: ∀c∈b,P c) (m:Nat):lev3 (a.map γ) (b.map γ) m=lev3 a b m:=by
 unfold lev3
 rw[List.length_map,List.length_map,lout_ren R ha b _ _ _ hb]
theorem lev2_ren {γ:Nat→Nat} {P:Nat→Prop} (R:RenC γ P) {a b:List Nat} (ha: ∀c∈a,P c) (hb: ∀c∈b,P c) (m:Nat):lev2 (a.map γ) (b.map γ) m=lev2 a b m:=by
 unfold lev2
 rw[List.length_map,List.length_map,lev3_ren R ha hb,lev3_ren R hb ha]
 simp only[List.map_eq_nil_iff]
theorem lev_ren {γ:Nat→Nat} {P:Nat→Prop} (R:RenC γ P) {a b:List Nat} (ha: ∀c∈a,P c) (hb: ∀c∈b,P c) (m:Nat):lev (a.map γ) (b.map γ) m=lev a b m:=by
 unfold lev
 have hinj:a.map γ=b.map γ↔a=b:=by
  constructor
  ·intro h
   clear m
   induction a generalizing b with
   |nil=>cases b with
    |nil=>rfl
    |cons y b=>cases h
   |cons x a ih=>cases b with
    |nil=>cases h
    |cons y b=>
     rw[List.map_cons,List.map_cons,List.cons.injEq] at h
     rw[R.inj x (ha x (by simp)) y (hb y (by simp)) h.1,ih (fun c hc=>ha c (List.mem_cons_of_mem _ hc)) (fun c hc=>hb c (List.mem_cons_of_mem _ hc)) h.2]
  ·exact fun h=>by rw[h]
 by_cases c:a=b
 ·rw[if_pos c,if_pos (hinj.mpr c)]
 ·rw[if_neg c,if_neg (fun h=>c (hinj.mp h))]
  obtain ⟨_,_,s1,s2⟩:=stripP_le a b
  rw[stripP_ren R a b ha hb]
  simp only
  rw[←List.map_reverse,←List.map_reverse,stripP_ren R _ _ (fun c hc=>ha c (s1 c (List.mem_reverse.mp hc))) (fun c hc=>hb c (s2 c (List.mem_reverse.mp hc)))]
  simp only
  obtain ⟨_,_,t1,t2⟩:=stripP_le (stripP a b).1.reverse (stripP a b).2.reverse
  rw[←List.map_reverse,←List.map_reverse]
  exact lev2_ren R (fun c hc=>ha c (s1 c (List.mem_reverse.mp (t1 c (List.mem_reverse.mp hc))))) (fun c hc=>hb c (s2 c (List.mem_reverse.mp (t2 c (List.mem_reverse.mp hc))))) m
theorem renC_of {g:Nat→Nat} (R:Ren g):RenC g (· ∈L4):=by
 refine ⟨R.inj,fun x hx y hy=>?_⟩
 have lo: ∀c∈L4,low c=c:=fun c hc=>if_neg (by have:=L4_97 hc;lia)
 unfold cost
 rw[lo _ (R.to x hx),lo _ (R.to y hy),lo x hx,lo y hy]
 by_cases c:x=y
 ·rw[if_pos c,if_pos (by rw[c])]
 ·rw[if_neg c,if_neg (fun h=>c (R.inj x hx y hy h)),if_neg c,if_neg (fun h=>c (R.inj x hx y hy h))]
end
end
section
open PySem PySem.Spec PySem.Calls PyProof.Rows PySem.W
section
noncomputable def entP (x y:Nat) (l:List Nat):Int:=if l=dueN x y then 1 else if l=dueN y x then-1 else 0
noncomputable def entW (w:List Nat) (x y:Nat):Int:=entP x y (bareN x y [] w)
noncomputable def pats6 (x y:Nat):List (List Nat):=[[x-32,x,y-32,y],[x-32,y-32,x,y],[x-32,y-32,y,x],[y-32,y,x-32,x],[y-32,x-32,y,x],[y-32,x-32,x,y]]
noncomputable def ps6:List (Nat×Nat):=[(102,105),(102,115),(102,116),(105,115),(105,116),(115,116)]
noncomputable def wsD (d:Nat):List (List Nat):=(List.range 5).flatMap fun e=>(List.range 3).map fun f=>wordN 0 0 0 d e f
noncomputable def w105:List (List Nat):=(List.range 7).flatMap wsD
noncomputable def pfK (E:Nat→Nat→Int):List Nat→Int
 |[]=>1
 |[x,y]=>E x y*E x y
 |[a,b,c,d]=>(E a b*E c d-E a c*E b d+E a d*E b c)*(E a b*E c d-E a c*E b d+E a d*E b c)
 |_=>0
theorem w105_mem {d e f:Nat} (hd:d<7) (he:e<5) (hf:f<3):wordN 0 0 0 d e f∈w105:=by
 unfold w105 wsD
 exact List.mem_flatMap.mpr ⟨d,List.mem_range.mpr hd,List.mem_flatMap.mpr ⟨e,List.mem_range.mpr he,List.mem_map.mpr ⟨f,List.mem_range.mpr hf,rfl⟩⟩⟩
theorem b1_chk:w105.all (fun w=>w.length==8&&w.all (fun c=>decide (c∈L4))&&(List.range 8).all fun p=> !(mateL w p).isEmpty)=true:=by decide+kernel
theorem b3_chk:w105.all (fun w=>ps6.all fun p=>lev w ((bareN p.1 p.2 [] w).map low) 8==8)=true:=by decide+kernel
theorem b4_chk:w105.all (fun w=>ps6.all fun p=>decide (bareN p.1 p.2 [] w∈pats6 p.1 p.2))=true:=by decide+kernel
noncomputable def rgOk (w:List Nat):Bool:=(List.range 16).all fun pl=>(if ringsN w (matesN w) (kp pl 4)=1 then (1:Int) else 0)==pfK (entW w) (kp pl 4)
theorem b5_d: ∀d,d<7→(wsD d).all rgOk=true
 |0,_=>by decide+kernel
 |1,_=>by decide+kernel
 |2,_=>by decide+kernel
 |3,_=>by decide+kernel
 |4,_=>by decide+kernel
 |5,_=>by decide+kernel
 |6,_=>by decide+kernel
 |d+7,h=>absurd h (by lia)
theorem b5_chk:w105.all rgOk=true:=List.all_eq_true.mpr fun w hw=>(List.mem_flatMap.mp hw).elim fun d hd=>List.all_eq_true.mp (b5_d d (List.mem_range.mp hd.1)) w hd.2
theorem b6_chk:ps6.all (fun p=>(pats6 p.1 p.2).all fun l=>[5,6,7].all fun b=>lookE (lev (dueN p.1 p.2) l b)==some (entP p.1 p.2 l)&&lookE (lev l (dueN p.1 p.2) b)==some (entP p.1 p.2 l))=true:=by decide+kernel
noncomputable def sameK (l l':List Nat):Bool:=l==l'||(l.length==2&&l==l'.reverse)||(l'==L4&&decide (l∈perms24))||(l.length%2==1&&l'.length%2==1)
theorem b7_chk:perms24.all (fun o=>(List.range 16).all fun pl=>(List.range 16).any (fun p0=>kp p0 4==L4.filter fun x=>decide (gL o x∈kp pl 4))&&sameK ((L4.filter fun x=>decide (gL o x∈kp pl 4)).map (gL o)) (kp pl 4))=true:=by decide+kernel
end
end
section
open PySem PySem.Spec PySem.Calls PyProof.Rows PySem.W
section
structure Base (w:List Nat):Prop where
 len:w.length=8
 let4: ∀c∈w,c∈L4
 mate: ∀p,p<8→mateL w p≠[]
 sub: ∀x∈L4,∀y∈L4,x≠y→lev w ((bareN x y [] w).map low) 8=8
 pat: ∀x∈L4,∀y∈L4,x≠y→bareN x y [] w∈pats6 x y
theorem ps6_all:L4.all (fun x=>L4.all fun y=>x==y||decide ((x,y)∈ps6)||decide ((y,x)∈ps6))=true:=by decide+kernel
theorem pats_symm {x y:Nat} {l:List Nat} (h:l∈pats6 y x):l∈pats6 x y:=by
 unfold pats6 at*
 simp only[List.mem_cons,List.not_mem_nil,or_false] at*
 rcases h with h|h|h|h|h|h
 ·exact .inr (.inr (.inr (.inl h)))
 ·exact .inr (.inr (.inr (.inr (.inl h))))
 ·exact .inr (.inr (.inr (.inr (.inr h))))
 ·exact .inl h
 ·exact .inr (.inl h)
 ·exact .inr (.inr (.inl h))
theorem base_of {w:List Nat} (h:w∈w105):Base w:=by
 have h1:=List.all_eq_true.mp b1_chk w h
 simp only[Bool.and_eq_true,beq_iff_eq,List.all_eq_true,decide_eq_true_eq,Bool.not_eq_true',List.mem_range] at h1
 have hp: ∀x∈L4,∀y∈L4,x≠y→(x,y)∈ps6∨(y,x)∈ps6:=by
  intro x hx y hy hne
  have:=List.all_eq_true.mp (List.all_eq_true.mp ps6_all x hx) y hy
  simp only[Bool.or_eq_true,beq_iff_eq,decide_eq_true_eq] at this
  rcases this with (h|h)|h
  ·exact absurd h hne
  ·exact .inl h
  ·exact .inr h
 refine ⟨h1.1.1,h1.1.2,fun p hp8 e=>?_,fun x hx y hy hne=>?_,fun x hx y hy hne=>?_⟩
 ·have:=h1.2 p hp8
  rw[e] at this;cases this
 ·rcases hp x hx y hy hne with c|c
  ·have h2:=List.all_eq_true.mp (List.all_eq_true.mp b3_chk w h) (x,y) c
   dsimp only at h2
   exact eq_of_beq h2
  ·have h2:=List.all_eq_true.mp (List.all_eq_true.mp b3_chk w h) (y,x) c
   dsimp only at h2
   rw[bare_symm];exact eq_of_beq h2
 ·rcases hp x hx y hy hne with c|c
  ·have h2:=List.all_eq_true.mp (List.all_eq_true.mp b4_chk w h) (x,y) c
   dsimp only at h2
   exact of_decide_eq_true h2
  ·have h2:=List.all_eq_true.mp (List.all_eq_true.mp b4_chk w h) (y,x) c
   dsimp only at h2
   rw[bare_symm];exact pats_symm (of_decide_eq_true h2)
theorem low_gU {g:Nat→Nat} (R:Ren g) {c:Nat} (h:okc c=true):low (gU g c)=g (low c):=by
 have hl:low c∈L4:=by
  have:=okc_mem h
  simp only[List.mem_cons,List.not_mem_nil,or_false] at this
  rcases this with rfl|rfl|rfl|rfl|rfl|rfl|rfl|rfl<;>decide
 have hg:=L4_97 (R.to _ hl)
 unfold low at*
 by_cases c97:c<97
 ·rw[if_pos c97] at hg hl⊢
  unfold gU
  rw[if_pos c97,if_pos (by lia)];lia
 ·rw[if_neg c97] at hg hl⊢
  unfold gU
  rw[if_neg c97,if_neg (by lia)]
theorem gU_inj {g:Nat→Nat} (R:Ren g) {c d:Nat} (hc:okc c=true) (hd:okc d=true) (e:gU g c=gU g d):c=d:=by
 have hl: ∀{c},okc c=true→(c∈L4∧gU g c=g c∧97≤g c)∨(c<97∧c+32∈L4∧gU g c=g (c+32)-32∧g (c+32)<123∧97≤g (c+32)):=by
  intro c h
  have hm:=okc_mem h
  simp only[List.mem_cons,List.not_mem_nil,or_false] at hm
  by_cases c97:c<97
  ·right
   have hl:c+32∈L4:=by rcases hm with rfl|rfl|rfl|rfl|rfl|rfl|rfl|rfl<;>first|decide|lia
   have:=L4_97 (R.to _ hl)
   exact ⟨c97,hl,if_pos c97,this.2,this.1⟩
  ·left
   have hl:c∈L4:=by rcases hm with rfl|rfl|rfl|rfl|rfl|rfl|rfl|rfl<;>first|decide|lia
   exact ⟨hl,if_neg c97,(L4_97 (R.to _ hl)).1⟩
 rcases hl hc with ⟨h1,h2,h3⟩|⟨h0,h1,h2,h3,h4⟩<;>rcases hl hd with ⟨k1,k2,k3⟩|⟨k0,k1,k2,k3,k4⟩
 ·exact R.inj c h1 d k1 (by lia)
 ·lia
 ·lia
 ·have:=R.inj _ h1 _ k1 (by lia);lia
theorem map_gU_inj {g:Nat→Nat} (R:Ren g): ∀a b:List Nat,(∀c∈a,okc c=true)→(∀c∈b,okc c=true)→(a.map (gU g)=b.map (gU g)↔a=b)
 |[],[],_,_=>by simp
 |[],y::b,_,_=>by simp
 |x::a,[],_,_=>by simp
 |x::a,y::b,ha,hb=>by
  rw[List.map_cons,List.map_cons,List.cons.injEq,List.cons.injEq,map_gU_inj R a b (fun c hc=>ha c (List.mem_cons_of_mem _ hc)) (fun c hc=>hb c (List.mem_cons_of_mem _ hc))]
  constructor
  ·exact fun h=>⟨gU_inj R (ha x (by simp)) (hb y (by simp)) h.1,h.2⟩
  ·exact fun h=>⟨by rw[h.1],h.2⟩
theorem due_ren {g:Nat→Nat} {x y:Nat} (hx:x∈L4) (hy:y∈L4):dueN (g x) (g y)=(dueN x y).map (gU g):=by
 unfold dueN
 simp only[List.map_cons,List.map_nil]
 rw[gU_up hx,gU_up hy,gU_low hx,gU_low hy]
theorem due_okc {x y:Nat} (hx:x∈L4) (hy:y∈L4): ∀c∈dueN x y,okc c=true:=by
 intro c hc
 unfold dueN at hc
 simp only[List.mem_cons,List.not_mem_nil,or_false] at hc
 rcases hc with rfl|rfl|rfl|rfl
 ·rcases L4_of hx with rfl|rfl|rfl|rfl<;>rfl
 ·rcases L4_of hy with rfl|rfl|rfl|rfl<;>rfl
 ·rcases L4_of hx with rfl|rfl|rfl|rfl<;>rfl
 ·rcases L4_of hy with rfl|rfl|rfl|rfl<;>rfl
theorem ent_ren {g:Nat→Nat} (R:Ren g) {w:List Nat} (hw: ∀c∈w,c∈L4) {x y:Nat} (hx:x∈L4) (hy:y∈L4):entW (w.map g) (g x) (g y)=entW w x y:=by
 unfold entW entP
 have hb:=(bare_ok x y w [] hw).1
 have e:=bare_ren R hx hy w [] hw (by simp)
 rw[List.map_nil] at e
 rw[e,due_ren hx hy,due_ren hy hx]
 have i1:=map_gU_inj R (bareN x y [] w) (dueN x y) hb (due_okc hx hy)
 have i2:=map_gU_inj R (bareN x y [] w) (dueN y x) hb (due_okc hy hx)
 by_cases c1:bareN x y [] w=dueN x y
 ·rw[if_pos c1,if_pos (i1.mpr c1)]
 ·rw[if_neg c1,if_neg (fun h=>c1 (i1.mp h))]
  by_cases c2:bareN x y [] w=dueN y x
  ·rw[if_pos c2,if_pos (i2.mpr c2)]
  ·rw[if_neg c2,if_neg (fun h=>c2 (i2.mp h))]
theorem ent_symm (w:List Nat) {x y:Nat} (h:x≠y) (h97:97≤x) (h97':97≤y):entW w y x= -entW w x y:=by
 unfold entW entP
 rw[bare_symm y x]
 have hne:dueN x y≠dueN y x:=by
  unfold dueN
  intro z
  rw[List.cons.injEq] at z
  lia
 by_cases c1:bareN x y [] w=dueN x y
 ·have c2: ¬bareN x y [] w=dueN y x:=fun z=>hne (c1.symm.trans z)
  simp only[if_pos c1,if_neg c2]
 ·by_cases c2:bareN x y [] w=dueN y x
  ·simp only[if_neg c1,if_pos c2];rfl
  ·simp only[if_neg c1,if_neg c2];rfl
theorem ent_vals (w:List Nat) (x y:Nat):entW w x y=1∨entW w x y= -1∨entW w x y=0:=by
 unfold entW entP
 split
 ·exact .inl rfl
 ·split
  ·exact .inr (.inl rfl)
  ·exact .inr (.inr rfl)
theorem getD_map {g:Nat→Nat} {w:List Nat} {q:Nat} (h:q<w.length):(w.map g).getD q 0=g (w.getD q 0):=by
 rw[List.getD_eq_getElem?_getD,List.getElem?_map,List.getD_eq_getElem?_getD,List.getElem?_eq_getElem h];rfl
theorem getD_mem {w:List Nat} {q:Nat} (h:q<w.length):w.getD q 0∈w:=by
 rw[List.getD_eq_getElem?_getD,List.getElem?_eq_getElem h];exact List.getElem_mem h
theorem mate_ren {g:Nat→Nat} (R:Ren g) {w:List Nat} (hw: ∀c∈w,c∈L4) (hl:w.length=8) {p:Nat} (hp:p<8):mateL (w.map g) p=mateL w p:=by
 unfold mateL
 refine List.filter_congr fun q hq=>?_
 have hq8:=List.mem_range.mp hq
 rw[getD_map (by lia),getD_map (by lia)]
 congr 1
 rw[decide_eq_decide]
 constructor
 ·exact R.inj _ (hw _ (getD_mem (by lia))) _ (hw _ (getD_mem (by lia)))
 ·exact fun h=>by rw[h]
theorem mates_ren {g:Nat→Nat} (R:Ren g) {w:List Nat} (hw: ∀c∈w,c∈L4) (hl:w.length=8):matesN (w.map g)=matesN w:=by
 unfold matesN
 refine List.map_congr_left fun p hp=>?_
 rw[mate_ren R hw hl (List.mem_range.mp hp)]
theorem rings_ren {g:Nat→Nat} {w:List Nat} (hw: ∀c∈w,c∈L4) (hl:w.length=8) (m kl kl0:List Nat) (hk: ∀x∈L4,g x∈kl↔x∈kl0):ringsN (w.map g) m kl=ringsN w m kl0:=by
 unfold ringsN
 have:turnN (w.map g) m kl=turnN w m kl0:=by
  unfold turnN
  refine List.map_congr_left fun p hp=>?_
  have hp8:=List.mem_range.mp hp
  rw[getD_map (by lia)]
  have:=hk _ (hw _ (getD_mem (q:=p) (by lia)))
  by_cases c:w.getD p 0∈kl0
  ·rw[if_pos c,if_pos (this.mpr c)]
  ·rw[if_neg c,if_neg (fun h=>c (this.mp h))]
 rw[this]
end
end
section
open PySem PySem.Spec PySem.Calls PyProof.Rows PySem.W
section
structure WordOk (w:List Nat):Prop where
 len:w.length=8
 let4: ∀c∈w,c∈L4
 mate: ∀p,p<8→mateL w p≠[]
 ent: ∀j i,j<i→i<4→EntOk w (L4.getD j 0) (L4.getD i 0) (entW w (L4.getD j 0) (L4.getD i 0))∧entW w (L4.getD j 0) (L4.getD i 0)≠9
 ring: ∀pl,pl<16→(if ringsN w (matesN w) (kp pl 4)=1 then (1:Int) else 0)=pfK (entW w) (kp pl 4)
theorem pats_ren {g:Nat→Nat} {x y:Nat} (hx:x∈L4) (hy:y∈L4) {l:List Nat} (h:l∈pats6 x y):l.map (gU g)∈pats6 (g x) (g y):=by
 unfold pats6 at*
 simp only[List.mem_cons,List.not_mem_nil,or_false] at*
 rcases h with rfl|rfl|rfl|rfl|rfl|rfl<;>simp only[List.map_cons,List.map_nil,gU_up hx,gU_up hy,gU_low hx,gU_low hy,true_or,or_true]
theorem pairs_chk:(List.range 4).all (fun i=>(List.range i).all fun j=>decide ((L4.getD j 0,L4.getD i 0)∈ps6))=true:=by decide+kernel
theorem pairs_in {j i:Nat} (hj:j<i) (hi:i<4):(L4.getD j 0,L4.getD i 0)∈ps6:=
 of_decide_eq_true (List.all_eq_true.mp (List.all_eq_true.mp pairs_chk i (List.mem_range.mpr hi)) j (List.mem_range.mpr hj))
theorem ps6_ok: ∀p∈ps6,p.1∈L4∧p.2∈L4∧p.1≠p.2:=by decide
theorem kp_L4:(List.range 16).all (fun pl=>(kp pl 4).all fun c=>decide (c∈L4))=true:=by decide+kernel
noncomputable def sw (k:Nat) (l:List Nat):List Nat:=l.take k++[l.getD (k+1) 0,l.getD k 0]++l.drop (k+2)
noncomputable def swc:List Nat→List Nat→List Nat→Bool
 |[],l,o=>l==o
 |k::p,l,o=>decide (k<3∧l.length=4∧l.getD k 0∈L4∧l.getD (k+1) 0∈L4∧l.getD k 0≠l.getD (k+1) 0)&&swc p (sw k l) o
noncomputable def paths:List (List Nat):=[[],[0],[1,0],[2,1,0]].flatMap fun p=>[[],[1],[2,1]].flatMap fun q=>[[],[2]].map fun r=>p++q++r
theorem swc_chk:perms24.all (fun o=>paths.any fun p=>swc p L4 o)=true:=by decide+kernel
theorem sq_neg {a b:Int} (h:a= -b):a*a=b*b:=by rw[h,Int.neg_mul_neg]
theorem pf_a (p q r s t u:Int): -p*q-t*u+s*r= -(p*q-r*s+u*t):=by rw[Int.neg_mul,Int.mul_comm s r,Int.mul_comm u t];lia
theorem pf_b (p q r s t u:Int):r*s-p*q+t* -u= -(p*q-r*s+t*u):=by rw[Int.mul_neg];lia
theorem pf_c (p q r s t u:Int):p* -q-t*u+r*s= -(p*q-r*s+t*u):=by rw[Int.mul_neg];lia
theorem pf_sw {E:Nat→Nat→Int} (hE: ∀x∈L4,∀y∈L4,x≠y→E y x= -E x y) {k:Nat} {l:List Nat} (hk:k<3) (h4:l.length=4) (h1:l.getD k 0∈L4) (h2:l.getD (k+1) 0∈L4) (h:l.getD k 0≠l.getD (k+1) 0):pfK E (sw k l)=pfK E l:=by
 have e:=hE _ h1 _ h2 h
 obtain ⟨a,l,rfl⟩:=List.exists_cons_of_length_eq_add_one h4
 obtain ⟨b,l,rfl⟩:=List.exists_cons_of_length_eq_add_one (Nat.succ.inj h4)
 obtain ⟨c,l,rfl⟩:=List.exists_cons_of_length_eq_add_one (Nat.succ.inj (Nat.succ.inj h4))
 obtain ⟨d,l,rfl⟩:=List.exists_cons_of_length_eq_add_one (Nat.succ.inj (Nat.succ.inj (Nat.succ.inj h4)))
 obtain rfl:=List.length_eq_zero_iff.mp (Nat.succ.inj (Nat.succ.inj (Nat.succ.inj (Nat.succ.inj h4))))
 match k,hk with
 |0,_=>
  replace e:E b a= -E a b:=e
  show (E b a*E c d-E b c*E a d+E b d*E a c)*(E b a*E c d-E b c*E a d+E b d*E a c)=_
  rw[e]
  exact sq_neg (pf_a ..)
 |1,_=>
  replace e:E c b= -E b c:=e
  show (E a c*E b d-E a b*E c d+E a d*E c b)*(E a c*E b d-E a b*E c d+E a d*E c b)=_
  rw[e]
  exact sq_neg (pf_b ..)
 |2,_=>
  replace e:E d c= -E c d:=e
  show (E a b*E d c-E a d*E b c+E a c*E b d)*(E a b*E d c-E a d*E b c+E a c*E b d)=_
  rw[e]
  exact sq_neg (pf_c ..)
theorem pf_path {E:Nat→Nat→Int} (hE: ∀x∈L4,∀y∈L4,x≠y→E y x= -E x y): ∀(p l o:List Nat),swc p l o=true→pfK E o=pfK E l
 |[],l,o,h=>by rw[eq_of_beq h]
 |k::p,l,o,h=>by
  obtain ⟨h1,h2⟩:=(Bool.and_eq_true_iff.mp h)
  obtain ⟨a1,a2,a3,a4,a5⟩:=of_decide_eq_true h1
  exact (pf_path hE p _ o h2).trans (pf_sw hE a1 a2 a3 a4 a5)
theorem pf_odd (E:Nat→Nat→Int): ∀l:List Nat,l.length%2=1→pfK E l=0
 |[_],_=>rfl
 |[_,_,_],_=>rfl
 |_::_::_::_::_::_,_=>rfl
 |[],h=>nomatch h
 |[_,_],h=>absurd (@id (2%2=1) h) (by decide)
 |[_,_,_,_],h=>absurd (@id (4%2=1) h) (by decide)
theorem pf_rev (E:Nat→Nat→Int) (hE: ∀x∈L4,∀y∈L4,x≠y→E y x= -E x y) {l l':List Nat} (hl: ∀c∈l,c∈L4) (hl': ∀c∈l',c∈L4) (h:sameK l l'=true):pfK E l=pfK E l':=by
 unfold sameK at h
 simp only[Bool.or_eq_true,Bool.and_eq_true,beq_iff_eq,decide_eq_true_eq] at h
 rcases h with ((h|⟨h2,h⟩)|⟨h,hm⟩)|⟨h1,h2⟩
 ·rw[h]
 ·obtain ⟨x,l,rfl⟩:=List.exists_cons_of_length_eq_add_one h2
  obtain ⟨y,l,rfl⟩:=List.exists_cons_of_length_eq_add_one (Nat.succ.inj h2)
  obtain rfl:=List.length_eq_zero_iff.mp (Nat.succ.inj (Nat.succ.inj h2))
  have:l'=[y,x]:=by rw[←List.reverse_reverse l',←h];rfl
  subst this
  show E x y*E x y=E y x*E y x
  by_cases z:x=y
  ·rw[z]
  ·rw[hE x (hl x (.head _)) y (hl y (.tail _ (.head _))) z,Int.neg_mul_neg]
 ·subst h
  obtain ⟨p,_,hp⟩:=List.any_eq_true.mp (List.all_eq_true.mp swc_chk _ hm)
  exact pf_path hE p _ _ hp
 ·rw[pf_odd E l h1,pf_odd E l' h2]
theorem pfK_ren {g:Nat→Nat} (R:Ren g) {w:List Nat} (hw: ∀c∈w,c∈L4) {l:List Nat} (hl: ∀c∈l,c∈L4):pfK (entW (w.map g)) (l.map g)=pfK (entW w) l:=by
 match l,hl with
 |[],_=>rfl
 |[_],_=>rfl
 |[x,y],h=>
  show entW (w.map g) (g x) (g y)*entW (w.map g) (g x) (g y)=entW w x y*entW w x y
  rw[ent_ren R hw (h x (by simp)) (h y (by simp))]
 |[_,_,_],_=>rfl
 |[a,b,c,d],h=>
  have ha:=h a (.head _)
  have hb:=h b (.tail _ (.head _))
  have hc:=h c (.tail _ (.tail _ (.head _)))
  have hd:=h d (.tail _ (.tail _ (.tail _ (.head _))))
  refine congrArg (fun z:Int=>z*z) ?_
  show entW (w.map g) (g a) (g b)*entW (w.map g) (g c) (g d)-entW (w.map g) (g a) (g c)*entW (w.map g) (g b) (g d)+entW (w.map g) (g a) (g d)*entW (w.map g) (g b) (g c)=_
  rw[ent_ren R hw ha hb,ent_ren R hw hc hd,ent_ren R hw ha hc,ent_ren R hw hb hd,ent_ren R hw ha hd,ent_ren R hw hb hc]
 |_::_::_::_::_::_,_=>rfl
theorem word_ok {a b c d e f:Nat} (ha:a<4) (hb:b<3) (hc:c<2) (hd:d<7) (he:e<5) (hf:f<3):WordOk (wordN a b c d e f):=by
 rw[word_ren hd he hf]
 have ho:=ord_mem ha hb hc
 have R:=ren_of ho
 have hw0:=w105_mem hd he hf
 have B:=base_of hw0
 have h7:=List.all_eq_true.mp b7_chk _ ho
 have h5:=List.all_eq_true.mp b5_chk _ hw0
 generalize wordN 0 0 0 d e f=w0 at*
 generalize ordN a b c=o at*
 have hlet: ∀x∈w0.map (gL o),x∈L4:=by
  intro x hx
  obtain ⟨y,hy,rfl⟩:=List.mem_map.mp hx
  exact R.to y (B.let4 y hy)
 refine ⟨by rw[List.length_map];exact B.len,hlet,fun p hp=>by rw[mate_ren R B.let4 B.len hp];exact B.mate p hp,fun j i hj hi=>?_,fun pl hpl=>?_⟩
 ·have hps:=pairs_in hj hi
  obtain ⟨hx,hy,hne⟩:=ps6_ok _ hps
  have h6:=List.all_eq_true.mp b6_chk _ hps
  dsimp only at hx hy hne h6
  generalize L4.getD j 0=x at*
  generalize L4.getD i 0=y at*
  obtain ⟨x0,hx0,rfl⟩:=R.onto x hx
  obtain ⟨y0,hy0,rfl⟩:=R.onto y hy
  have hne0:x0≠y0:=fun z=>hne (by rw[z])
  have hbr:=bare_ren R hx0 hy0 w0 [] B.let4 (by simp)
  rw[List.map_nil] at hbr
  have hbo:=(bare_ok x0 y0 w0 [] B.let4).1
  have hbo':=(bare_ok (gL o x0) (gL o y0) (w0.map (gL o)) [] hlet).1
  have hlow:(bareN (gL o x0) (gL o y0) [] (w0.map (gL o))).map low=((bareN x0 y0 [] w0).map low).map (gL o):=by
   rw[hbr,List.map_map,List.map_map]
   exact List.map_congr_left fun c hc=>low_gU R (hbo c hc)
  have hpat:=pats_ren (g:=gL o) hx0 hy0 (B.pat x0 hx0 y0 hy0 hne0)
  rw[←hbr] at hpat
  refine ⟨⟨lower_okc hbo',?_,fun b hb1 hb2=>?_⟩,?_⟩
  ·rw[hlow,lev_ren (renC_of R) (P:=(· ∈L4)) B.let4 (fun c hc=>?_) 8]
   ·exact B.sub x0 hx0 y0 hy0 hne0
   ·obtain ⟨d,hd,rfl⟩:=List.mem_map.mp hc
    have:=okc_mem (hbo d hd)
    simp only[List.mem_cons,List.not_mem_nil,or_false] at this
    rcases this with rfl|rfl|rfl|rfl|rfl|rfl|rfl|rfl<;>decide
  ·have h8:=List.all_eq_true.mp (List.all_eq_true.mp h6 _ hpat) b (by
    have:b=5∨b=6∨b=7:=by lia
    rcases this with rfl|rfl|rfl<;>decide)
   simp only[Bool.and_eq_true,beq_iff_eq] at h8
   exact h8
  ·rcases ent_vals (w0.map (gL o)) (gL o x0) (gL o y0) with h|h|h<;>rw[h]<;>decide
 ·have h8:=List.all_eq_true.mp h7 pl (List.mem_range.mpr hpl)
  simp only[Bool.and_eq_true,List.any_eq_true,beq_iff_eq,List.mem_range] at h8
  obtain ⟨⟨p0,hp0,hkp⟩,hs⟩:=h8
  have h9:=eq_of_beq (List.all_eq_true.mp h5 p0 (List.mem_range.mpr hp0))
  have hk0: ∀c∈kp p0 4,c∈L4:=fun c hc=>by
   have:=List.all_eq_true.mp (List.all_eq_true.mp kp_L4 p0 (List.mem_range.mpr hp0)) c hc
   exact of_decide_eq_true this
  have hk1: ∀c∈kp pl 4,c∈L4:=fun c hc=>by
   have:=List.all_eq_true.mp (List.all_eq_true.mp kp_L4 pl (List.mem_range.mpr hpl)) c hc
   exact of_decide_eq_true this
  rw[←hkp] at hs
  rw[mates_ren R B.let4 B.len,rings_ren B.let4 B.len (matesN w0) (kp pl 4) (kp p0 4) (fun x hx=>?_),h9,←pfK_ren R B.let4 hk0]
  ·refine pf_rev _ (fun x hx y hy z=>ent_symm _ z (L4_97 hx).1 (L4_97 hy).1) (fun c hc=>?_) hk1 hs
   ·obtain ⟨y,hy,rfl⟩:=List.mem_map.mp hc
    exact R.to y (hk0 y hy)
  ·rw[hkp,List.mem_filter]
   simp[hx]
end
end
section
open PySem PySem.Spec PySem.Calls PyProof.Rows PySem.W
section
noncomputable def mB (M:Nat→Nat→Int) (i j:Nat):Int:=M 0 0*M i j-M i 0*M 0 j
noncomputable def mD (M:Nat→Nat→Int) (i j:Nat):Int:=M 0 0*(M 1 1*M i j-M i 1*M 1 j)-M 0 1*(M 1 0*M i j-M i 0*M 1 j)+M 0 j*(M 1 0*M i 1-M 1 1*M i 0)
noncomputable def mA (M:Nat→Nat→Int) (dt:Int):Nat→Nat→Nat→Int
 |0,i,j=>M i j
 |1,i,j=>if 0<i∧0<j then mB M i j else M i j
 |2,i,j=>if 1<i∧1<j then mD M i j else if 0<i∧0<j then mB M i j else M i j
 |_,i,j=>if 2<i∧2<j then dt else if 1<i∧1<j then mD M i j else if 0<i∧0<j then mB M i j else M i j
noncomputable def mH (M:Nat→Nat→Int):Nat→Int
 |0=>1
 |1=>M 0 0
 |2=>mB M 1 1
 |_=>mD M 2 2
theorem syl (M:Nat→Nat→Int) (i j:Nat):mB M 1 1*mB M i j-mB M i 1*mB M 1 j=M 0 0*mD M i j:=by
 unfold mB mD
 grind
noncomputable def detE (d0 d1 d2 d3 e01 e02 e03 e12 e13 e23:Int):Int:=
 d0*d1*d2*d3+d0*d1*(e23*e23)+d0*d2*(e13*e13)+d0*d3*(e12*e12)+d1*d2*(e03*e03)+d1*d3*(e02*e02)+d2*d3*(e01*e01)+(e01*e23-e02*e13+e03*e12)*(e01*e23-e02*e13+e03*e12)
theorem syl2 (M:Nat→Nat→Int) (h10:M 1 0= -M 0 1) (h20:M 2 0= -M 0 2) (h30:M 3 0= -M 0 3) (h21:M 2 1= -M 1 2) (h31:M 3 1= -M 1 3) (h32:M 3 2= -M 2 3):
  mD M 2 2*mD M 3 3-mD M 3 2*mD M 2 3=mB M 1 1*detE (M 0 0) (M 1 1) (M 2 2) (M 3 3) (M 0 1) (M 0 2) (M 0 3) (M 1 2) (M 1 3) (M 2 3):=by
 unfold mB mD detE
 rw[h10,h20,h30,h21,h31,h32]
 grind
end
section
theorem digs_succ (n X m:Nat):digs n X (m+1)=X%2^n::digs n (X/2^n) m:=by
 unfold digs
 rw[List.range_succ_eq_map,List.map_cons,List.map_map]
 congr 1
 ·simp
 ·refine List.map_congr_left fun i _=>?_
  show X/2^(n*(i+1))%2^n=X/2^n/2^(n*i)%2^n
  rw[Nat.div_div_eq_div_mul,←Nat.pow_add,Nat.mul_succ,Nat.add_comm n]
theorem digs_val (n:Nat): ∀l:List Nat,(∀x∈l,x<2^n)→digs n (val n l) l.length=l
 |[],_=>rfl
 |x::r,h=>by
  have hx:=h x (by simp)
  rw[List.length_cons,digs_succ,val_cons]
  have h1:(x+2^n*val n r)%2^n=x:=by rw[Nat.add_mul_mod_self_left,Nat.mod_eq_of_lt hx]
  have h2:(x+2^n*val n r)/2^n=val n r:=by rw[Nat.add_mul_div_left _ _ (Nat.two_pow_pos n),Nat.div_eq_of_lt hx,Nat.zero_add]
  rw[h1,h2,digs_val n r fun y hy=>h y (List.mem_cons_of_mem _ hy)]
theorem val_ge (n:Nat): ∀(l:List Nat) (t:Nat),0<t→2^(n*l.length)≤val n (l++[t])
 |[],t,h=>by
  rw[List.nil_append,val_cons]
  simp;lia
 |x::r,t,h=>by
  have:=val_ge n r t h
  rw[List.cons_append,val_cons,List.length_cons,Nat.mul_succ,Nat.pow_add,Nat.mul_comm (2^(n*r.length))]
  exact Nat.le_trans (Nat.mul_le_mul_left _ this) (Nat.le_add_left _ _)
theorem ndig_val {n:Nat} (hn:0<n) {l:List Nat} {t:Nat} (hl: ∀x∈l,x<2^n) (ht:0<t) (ht':t<2^n):ndig n (val n (l++[t]))=l.length+1:=by
 have h1:=val_ge n l t ht
 have h2:val n (l++[t])<2^(n*(l.length+1)):=by
  have:=val_lt (n:=n) (l:=l++[t]) (fun x hx=>by
   rcases List.mem_append.mp hx with h|h
   ·exact hl x h
   ·rw[List.mem_singleton.mp h];exact ht')
  rw[List.length_append,List.length_singleton] at this;exact this
 have b2:=bits_of h2
 have b1: ¬Builtin.Int.intBits ((val n (l++[t]):Nat):Int)≤n*l.length:=fun z=>by
  have:=n_bits.mp z;lia
 unfold ndig
 generalize Builtin.Int.intBits ((val n (l++[t]):Nat):Int)=b at*
 rw[Nat.mul_succ] at b2
 have e:b+n-1=(b-n*l.length-1)+n*(l.length+1):=by rw[Nat.mul_succ];lia
 rw[e,Nat.add_mul_div_left _ _ hn,Nat.div_eq_of_lt (by lia)];lia
theorem digits_val {n:Nat} (hn:0<n) {l:List Nat} {t:Nat} (hl: ∀x∈l,x<2^n) (ht:0<t) (ht':t<2^n):digs n (val n (l++[t])) (ndig n (val n (l++[t])))=l++[t]:=by
 rw[ndig_val hn hl ht ht']
 have:l.length+1=(l++[t]).length:=by rw[List.length_append];rfl
 rw[this]
 refine digs_val n _ fun x hx=>?_
 rcases List.mem_append.mp hx with h|h
 ·exact hl x h
 ·rw[List.mem_singleton.mp h];exact ht'
theorem wp_le {wt:List Nat} (h: ∀x∈wt,x≤10^30) (hl:wt.length=4) (pl:Nat): ∀i,i≤4→wp wt pl i≤10^(30*i)
 |0,_=>Nat.le_refl _
 |i+1,hi=>by
  have ih:=wp_le h hl pl i (by lia)
  have hw:=h _ (getD_mem (w:=wt) (q:=i) (by lia))
  have e1:wp wt pl (i+1)=if bitB pl i=true then wp wt pl i*wt.getD i 0 else wp wt pl i:=rfl
  rw[e1,Nat.mul_succ,Nat.pow_add]
  split
  ·exact Nat.mul_le_mul ih hw
  ·exact Nat.le_trans ih (Nat.le_mul_of_pos_right _ (Nat.pow_pos (by decide)))
theorem wp_pos {wt:List Nat} (h: ∀x∈wt,0<x) (hl:wt.length=4) (pl:Nat): ∀i,i≤4→0<wp wt pl i
 |0,_=>Nat.one_pos
 |i+1,hi=>by
  have ih:=wp_pos h hl pl i (by lia)
  have hw:=h _ (getD_mem (w:=wt) (q:=i) (by lia))
  have e1:wp wt pl (i+1)=if bitB pl i=true then wp wt pl i*wt.getD i 0 else wp wt pl i:=rfl
  rw[e1]
  split
  ·exact Nat.mul_pos ih hw
  ·exact ih
theorem big_lt:10^(30*4)<2^400:=by decide+kernel
noncomputable def dueD (w wt:List Nat) (pl:Nat):Nat:=if ringsN w (matesN w) (kp pl 4)=1 then wp wt pl 4 else 0
theorem dueL_eq (w wt:List Nat):dueL w wt=[dueD w wt 0,dueD w wt 1,dueD w wt 2,dueD w wt 3,dueD w wt 4,dueD w wt 5,dueD w wt 6,dueD w wt 7,dueD w wt 8,dueD w wt 9,dueD w wt 10,dueD w wt 11,dueD w wt 12,dueD w wt 13,dueD w wt 14]++[dueD w wt 15]:=rfl
theorem dueD_lt {w wt:List Nat} (h: ∀x∈wt,x≤10^30) (hl:wt.length=4) (n pl:Nat) (hn:400≤n):dueD w wt pl<2^n:=by
 unfold dueD
 split
 ·exact Nat.lt_of_le_of_lt (wp_le h hl pl 4 (Nat.le_refl _)) (Nat.lt_of_lt_of_le big_lt (Nat.pow_le_pow_right (by decide) hn))
 ·exact Nat.two_pow_pos n
theorem dueD_int {w wt:List Nat} (W:WordOk w) {pl:Nat} (h:pl<16):((dueD w wt pl:Nat):Int)=((wp wt pl 4:Nat):Int)*pfK (entW w) (kp pl 4):=by
 rw[←W.ring pl h]
 unfold dueD
 split
 ·rw[Int.mul_one]
 ·rw[Int.mul_zero];rfl
theorem det_val {w wt:List Nat} (W:WordOk w) {n:Nat} {s:Int} (hs:s*s=1):
  detE (s*(wt.getD 0 0:Int)*2^(n*8)) (s*(wt.getD 1 0:Int)*2^(n*4)) (s*(wt.getD 2 0:Int)*2^(n*2)) (s*(wt.getD 3 0:Int)*2^(n*1)) (entW w 102 105) (entW w 102 115) (entW w 102 116) (entW w 105 115) (entW w 105 116) (entW w 115 116)
   =((val n (dueL w wt):Nat):Int):=by
 have D: ∀pl (h:pl<16),((dueD w wt pl:Nat):Int)=((wp wt pl 4:Nat):Int)*pfK (entW w) (kp pl 4):=fun pl h=>dueD_int W h
 have d0:((dueD w wt 0:Nat):Int)=(entW w 102 105*entW w 115 116-entW w 102 115*entW w 105 116+entW w 102 116*entW w 105 115)*(entW w 102 105*entW w 115 116-entW w 102 115*entW w 105 116+entW w 102 116*entW w 105 115):=(D 0 (by decide)).trans (Int.one_mul _)
 have d1:((dueD w wt 1:Nat):Int)=0:=(D 1 (by decide)).trans (Int.mul_zero _)
 have d2:((dueD w wt 2:Nat):Int)=0:=(D 2 (by decide)).trans (Int.mul_zero _)
 have d3:((dueD w wt 3:Nat):Int)=((1*wt.getD 2 0*wt.getD 3 0:Nat):Int)*(entW w 102 105*entW w 102 105):=D 3 (by decide)
 have d4:((dueD w wt 4:Nat):Int)=0:=(D 4 (by decide)).trans (Int.mul_zero _)
 have d5:((dueD w wt 5:Nat):Int)=((1*wt.getD 1 0*wt.getD 3 0:Nat):Int)*(entW w 102 115*entW w 102 115):=D 5 (by decide)
 have d6:((dueD w wt 6:Nat):Int)=((1*wt.getD 1 0*wt.getD 2 0:Nat):Int)*(entW w 102 116*entW w 102 116):=D 6 (by decide)
 have d7:((dueD w wt 7:Nat):Int)=0:=(D 7 (by decide)).trans (Int.mul_zero _)
 have d8:((dueD w wt 8:Nat):Int)=0:=(D 8 (by decide)).trans (Int.mul_zero _)
 have d9:((dueD w wt 9:Nat):Int)=((1*wt.getD 0 0*wt.getD 3 0:Nat):Int)*(entW w 105 115*entW w 105 115):=D 9 (by decide)
 have d10:((dueD w wt 10:Nat):Int)=((1*wt.getD 0 0*wt.getD 2 0:Nat):Int)*(entW w 105 116*entW w 105 116):=D 10 (by decide)
 have d11:((dueD w wt 11:Nat):Int)=0:=(D 11 (by decide)).trans (Int.mul_zero _)
 have d12:((dueD w wt 12:Nat):Int)=((1*wt.getD 0 0*wt.getD 1 0:Nat):Int)*(entW w 115 116*entW w 115 116):=D 12 (by decide)
 have d13:((dueD w wt 13:Nat):Int)=0:=(D 13 (by decide)).trans (Int.mul_zero _)
 have d14:((dueD w wt 14:Nat):Int)=0:=(D 14 (by decide)).trans (Int.mul_zero _)
 have d15:((dueD w wt 15:Nat):Int)=((1*wt.getD 0 0*wt.getD 1 0*wt.getD 2 0*wt.getD 3 0:Nat):Int):=(D 15 (by decide)).trans (Int.mul_one _)
 have p8:(2:Int)^(n*8)=(2^n)^8:=Int.pow_mul ..
 have p4:(2:Int)^(n*4)=(2^n)^4:=Int.pow_mul ..
 have p2:(2:Int)^(n*2)=(2^n)^2:=Int.pow_mul ..
 have p1:(2:Int)^(n*1)=2^n:=by rw[Nat.mul_one]
 rw[dueL_eq,p8,p4,p2,p1]
 simp only[List.cons_append,List.nil_append,val,Nat.mul_zero,Nat.add_zero]
 simp only[Int.natCast_add,Int.natCast_mul,Int.natCast_pow] at*
 rw[d0,d1,d2,d3,d4,d5,d6,d7,d8,d9,d10,d11,d12,d13,d14,d15]
 have hc2:((2:Nat):Int)=2:=rfl
 rw[hc2]
 generalize (2:Int)^n=X at*
 generalize ((wt.getD 0 0:Nat):Int)=w0 at*
 generalize ((wt.getD 1 0:Nat):Int)=w1 at*
 generalize ((wt.getD 2 0:Nat):Int)=w2 at*
 generalize ((wt.getD 3 0:Nat):Int)=w3 at*
 clear D d0 d1 d2 d3 d4 d5 d6 d7 d8 d9 d10 d11 d12 d13 d14 d15
 generalize entW w 102 105=a at*
 generalize entW w 102 115=b at*
 generalize entW w 102 116=c at*
 generalize entW w 105 115=d at*
 generalize entW w 105 116=e at*
 generalize entW w 115 116=f at*
 unfold detE
 have hs4:s*s*(s*s)=1:=by rw[hs];rfl
 simp only[Int.natCast_one,Int.one_mul]
 clear p8 p4 p2 p1 hc2 W
 grind
end
end
section
open PySem PySem.Spec PySem.Calls PyProof.Rows PySem.W
section
theorem mA_ok {M:Nat→Nat→Int} {dt:Int} (hb: ∀i j,Builtin.Int.intBits (M i j)≤3805) (h10:M 1 0= -M 0 1) (h20:M 2 0= -M 0 2) (h30:M 3 0= -M 0 3) (h21:M 2 1= -M 1 2) (h31:M 3 1= -M 1 3) (h32:M 3 2= -M 2 3)
  (hdt:dt=detE (M 0 0) (M 1 1) (M 2 2) (M 3 3) (M 0 1) (M 0 2) (M 0 3) (M 1 2) (M 1 3) (M 2 3)) (h00:M 0 0≠0) (h11:mB M 1 1≠0):
  (∀k i j,k<3→k<i→i<4→k<j→j<4→mA M dt k k k*mA M dt k i j-mA M dt k i k*mA M dt k k j=mH M k*mA M dt (k+1) i j)∧(∀k i j,k<3→ ¬(k<i∧k<j)→mA M dt (k+1) i j=mA M dt k i j)∧
  mH M 0=1∧(∀k,k<3→mH M (k+1)=mA M dt (k+1) k k)∧(∀k,k<3→mH M k≠0)∧(∀k i j,k<3→Builtin.Int.intBits (mA M dt k i j)≤11420)∧(∀k,k<3→Builtin.Int.intBits (mH M k)≤11420):=by
 have bB: ∀i j,Builtin.Int.intBits (mB M i j)≤7611:=fun i j=>bits_sub' (bits_mul' (hb _ _) (hb _ _)) (bits_mul' (hb _ _) (hb _ _))
 have bD: ∀i j,Builtin.Int.intBits (mD M i j)≤11418:=fun i j=>by
  unfold mD
  have h2: ∀a b c d,Builtin.Int.intBits (M a b*M c d)≤7610:=fun a b c d=>bits_mul' (hb _ _) (hb _ _)
  have h3: ∀a b x,Builtin.Int.intBits x≤7611→Builtin.Int.intBits (M a b*x)≤11416:=fun a b x h=>bits_mul' (hb _ _) h
  refine bits_add' (m:=11417) (bits_sub' (m:=11416) (h3 _ _ _ (bits_sub' (h2 _ _ _ _) (h2 _ _ _ _))) (h3 _ _ _ (bits_sub' (h2 _ _ _ _) (h2 _ _ _ _)))) ?_
  exact Nat.le_trans (h3 _ _ _ (bits_sub' (h2 _ _ _ _) (h2 _ _ _ _))) (by decide)
 have k3: ∀{k:Nat},k<3→k=0∨k=1∨k=2:=fun h=>by lia
 refine ⟨fun k i j hk hi hi4 hj hj4=>?_,fun k i j hk hn=>?_,rfl,fun k hk=>?_,fun k hk=>?_,fun k i j hk=>?_,fun k hk=>?_⟩
 ·rcases k3 hk with rfl|rfl|rfl
  ·have e:mA M dt 1 i j=mB M i j:=if_pos ⟨hi,hj⟩
   rw[e]
   show M 0 0*M i j-M i 0*M 0 j=1*mB M i j
   rw[Int.one_mul];rfl
  ·have e1:mA M dt 1 1 1=mB M 1 1:=rfl
   have e2:mA M dt 1 i j=mB M i j:=if_pos ⟨by lia,by lia⟩
   have e3:mA M dt 1 i 1=mB M i 1:=if_pos ⟨by lia,by decide⟩
   have e4:mA M dt 1 1 j=mB M 1 j:=if_pos ⟨by decide,by lia⟩
   have e5:mA M dt 2 i j=mD M i j:=if_pos ⟨hi,hj⟩
   rw[e1,e2,e3,e4,e5]
   exact syl M i j
  ·obtain rfl:i=3:=by lia
   obtain rfl:j=3:=by lia
   show mD M 2 2*mD M 3 3-mD M 3 2*mD M 2 3=mB M 1 1*dt
   rw[hdt]
   exact syl2 M h10 h20 h30 h21 h31 h32
 ·rcases k3 hk with rfl|rfl|rfl
  ·exact if_neg hn
  ·exact if_neg hn
  ·exact if_neg hn
 ·rcases k3 hk with rfl|rfl|rfl<;>rfl
 ·rcases k3 hk with rfl|rfl|rfl
  ·show (1:Int)≠0;decide
  ·exact h00
  ·exact h11
 ·rcases k3 hk with rfl|rfl|rfl
  ·exact Nat.le_trans (hb i j) (by decide)
  ·show Builtin.Int.intBits (if 0<i∧0<j then mB M i j else M i j)≤11420
   split
   ·exact Nat.le_trans (bB i j) (by decide)
   ·exact Nat.le_trans (hb i j) (by decide)
  ·show Builtin.Int.intBits (if 1<i∧1<j then mD M i j else if 0<i∧0<j then mB M i j else M i j)≤11420
   split
   ·exact Nat.le_trans (bD i j) (by decide)
   ·split
    ·exact Nat.le_trans (bB i j) (by decide)
    ·exact Nat.le_trans (hb i j) (by decide)
 ·rcases k3 hk with rfl|rfl|rfl
  ·exact Nat.le_of_ble_eq_true (by kernel_rfl)
  ·exact Nat.le_trans (hb 0 0) (by decide)
  ·exact Nat.le_trans (bB 1 1) (by decide)
noncomputable def enW (w:List Nat) (j i:Nat):Int:=entW w (L4.getD j 0) (L4.getD i 0)
theorem mat_ok {w wt:List Nat} {c7:Int} (W:WordOk w) (hl:wt.length=4) (hb: ∀x∈wt,x≤10^30) (h0: ∀x∈wt,0<x):
  (∀i j,Builtin.Int.intBits (matF (sgn c7) (widN c7) wt (enW w) i j)≤3805)∧matF (sgn c7) (widN c7) wt (enW w) 0 0≠0∧mB (matF (sgn c7) (widN c7) wt (enW w)) 1 1≠0∧
  detE (matF (sgn c7) (widN c7) wt (enW w) 0 0) (matF (sgn c7) (widN c7) wt (enW w) 1 1) (matF (sgn c7) (widN c7) wt (enW w) 2 2) (matF (sgn c7) (widN c7) wt (enW w) 3 3) (matF (sgn c7) (widN c7) wt (enW w) 0 1) (matF (sgn c7) (widN c7) wt (enW w) 0 2) (matF (sgn c7) (widN c7) wt (enW w) 0 3) (matF (sgn c7) (widN c7) wt (enW w) 1 2) (matF (sgn c7) (widN c7) wt (enW w) 1 3) (matF (sgn c7) (widN c7) wt (enW w) 2 3)=((val (widN c7) (dueL w wt):Nat):Int):=by
 have hs:sgn c7=1∨sgn c7= -1:=by
  have:=(fmod_lt (x:=c7.fdiv 64) (s:=2) (by decide)).1
  unfold sgn;lia
 have hs2:sgn c7*sgn c7=1:=by rcases hs with e|e<;>rw[e]<;>rfl
 have hwd:widN c7≤463:=by
  unfold widN
  have:=(fmod_lt (x:=c7) (s:=64) (by decide)).1;lia
 have hwb: ∀a,Builtin.Int.intBits ((wt.getD a 0:Nat):Int)≤100:=fun a=>by
  refine bits_of ?_
  rw[List.getD_eq_getElem?_getD]
  by_cases c:a<wt.length
  ·rw[List.getElem?_eq_getElem c]
   exact Nat.lt_of_le_of_lt (hb _ (List.getElem_mem c)) (by decide+kernel)
  ·rw[List.getElem?_eq_none (by lia)];exact Nat.two_pow_pos 100
 refine ⟨fun i j=>?_,?_,?_,?_⟩
 ·unfold matF
  have he: ∀a b,Builtin.Int.intBits (enW w a b)≤3805:=fun a b=>by
   unfold enW
   rcases ent_vals w (L4.getD a 0) (L4.getD b 0) with e|e|e<;>rw[e]<;>exact Nat.le_trans (Nat.le_of_ble_eq_true (by kernel_rfl):_≤1) (by decide)
  split
  ·have h2:2^(3-i)≤2^3:=Nat.pow_le_pow_right (by decide) (by lia)
   have h3:widN c7*2^(3-i)≤463*8:=Nat.mul_le_mul hwd h2
   have h4:Builtin.Int.intBits ((2:Int)^(widN c7*2^(3-i)))≤3705:=by
    rw[n_pow];exact bits_of (Nat.pow_lt_pow_right (by decide) (by lia))
   refine bits_mul' (m:=100) ?_ h4
   rcases hs with e|e<;>rw[e]
   ·rw[Int.one_mul];exact hwb i
   ·rw[Int.neg_mul,Int.one_mul,bits_neg];exact hwb i
  ·split
   ·exact he i j
   ·rw[bits_neg];exact he j i
 ·have hw0:=h0 _ (getD_mem (w:=wt) (q:=0) (by lia))
  show sgn c7*(wt.getD 0 0:Int)*2^(widN c7*2^(3-0))≠0
  refine Int.mul_ne_zero (Int.mul_ne_zero (fun z=>?_) (by lia)) (fun z=>?_)
  ·rw[z] at hs2;cases hs2
  ·rw[n_pow] at z
   have:=Nat.two_pow_pos (widN c7*2^(3-0));lia
 ·have hw0:=h0 _ (getD_mem (w:=wt) (q:=0) (by lia))
  have hw1:=h0 _ (getD_mem (w:=wt) (q:=1) (by lia))
  show (sgn c7*(wt.getD 0 0:Int)*2^(widN c7*2^(3-0)))*(sgn c7*(wt.getD 1 0:Int)*2^(widN c7*2^(3-1)))-(-(enW w 0 1))*(enW w 0 1)≠0
  have hp0:(0:Int)<2^(widN c7*2^(3-0)):=by rw[n_pow];exact Int.natCast_pos.mpr (Nat.two_pow_pos _)
  have hp1:(0:Int)<2^(widN c7*2^(3-1)):=by rw[n_pow];exact Int.natCast_pos.mpr (Nat.two_pow_pos _)
  have hi0:(0:Int)<((wt.getD 0 0:Nat):Int):=Int.natCast_pos.mpr hw0
  have hi1:(0:Int)<((wt.getD 1 0:Nat):Int):=Int.natCast_pos.mpr hw1
  generalize (2:Int)^(widN c7*2^(3-0))=P at*
  generalize (2:Int)^(widN c7*2^(3-1))=P' at*
  generalize ((wt.getD 0 0:Nat):Int)=u at*
  generalize ((wt.getD 1 0:Nat):Int)=v at*
  have e1:(sgn c7*u*P)*(sgn c7*v*P')=(u*P)*(v*P'):=by
   have:(sgn c7*u*P)*(sgn c7*v*P')=(sgn c7*sgn c7)*((u*P)*(v*P')):=by grind
   rw[this,hs2,Int.one_mul]
  have e2:0<(u*P)*(v*P'):=Int.mul_pos (Int.mul_pos hi0 hp0) (Int.mul_pos hi1 hp1)
  have e3:0≤enW w 0 1*enW w 0 1:=by
   unfold enW
   rcases ent_vals w (L4.getD 0 0) (L4.getD 1 0) with e|e|e<;>rw[e]<;>decide
  rw[e1,Int.neg_mul]
  lia
 ·exact det_val (wt:=wt) (n:=widN c7) W hs2
theorem skew (s:Int) (wd:Nat) (wt:List Nat) (en:Nat→Nat→Int) {a b:Nat} (h:a<b):matF s wd wt en b a= -matF s wd wt en a b:=by
 unfold matF
 rw[if_neg (by lia),if_neg (by lia),if_neg (by lia),if_pos h]
end
end
section
open PySem PySem.Spec PySem.Calls PyProof.Rows PySem.W
section
variable {C:Ctx} {k:Nat} {σ:St} {QB:Bool→St→Prop}
theorem prep_flat: ∀l:List Nat,((l.filter fun c:Nat=> !setIn b1L (c:Int)).map fun c=>(mapB3 c).cps.toList).flatten=prepF l
 |[]=>rfl
 |x::r=>by
  have ih:=prep_flat r
  have e:prepF (x::r)=mapC x++prepF r:=rfl
  rw[e,←ih]
  unfold mapC
  by_cases c:setIn b1L (x:Int)=true
  ·rw[if_pos c,List.filter_cons_of_neg (by rw[c];decide)];rfl
  ·rw[if_neg c,List.filter_cons_of_pos (by simpa using c)];rfl
theorem c_isB {a b:Bool} (q:QB (a==b) σ):cmpPT .Is (.bool a) (.bool b) QB σ:= .isB q
theorem int_py (l:List Int):allSome V.py1 (ivs l)=some (l.map PyData.int):=allSome_map V.py1 V.int PyData.int (fun _=>rfl) l
theorem int_lay: ∀l:List Int,PyData.canLayAll0 (l.map PyData.int)=true
 |[]=>by rw[List.map_nil,PyData.canLayAll0]
 |x::r=>by rw[List.map_cons,PyData.canLayAll0,PyData.canLay0,int_lay r];rfl
theorem py_ivs {a:Addr} {l:List Int} (h:σ.lists a=some (ivs l)):σ.py (.lst a)=some (.list (l.map PyData.int)):=by
 show (match σ.lists a with|some xs=>(allSome V.py1 xs).map PyData.list|none=>none)=_
 rw[h]
 show (allSome V.py1 (ivs l)).map PyData.list=_
 rw[int_py];rfl
theorem nints_ivs (l:List Nat):nints l=ivs (l.map fun d:Nat=>(d:Int)):=by unfold nints ivs;rw[List.map_map];rfl
theorem c_neN {a b:Addr} {l:List Nat} (h:σ.lists a=some (nints l)) (h':σ.lists b=some (nints l)) (q:QB false σ):cmpPT .NotEq (.lst a) (.lst b) QB σ:=by
 rw[nints_ivs] at h h'
 have hl:(PyData.list ((l.map fun d:Nat=>(d:Int)).map PyData.int)).canLay0=true:=by rw[PyData.canLay0];exact int_lay _
 refine .ne (py_ivs h) (py_ivs h') hl hl ?_
 rw[SeqAt.eqv_refl _ hl]
 exact q
theorem c_eqN {a b:Addr} {l:List Nat} (h:σ.lists a=some (nints l)) (h':σ.lists b=some (nints l)) (q:QB true σ):cmpPT .Eq (.lst a) (.lst b) QB σ:=by
 rw[nints_ivs] at h h'
 have hl:(PyData.list ((l.map fun d:Nat=>(d:Int)).map PyData.int)).canLay0=true:=by rw[PyData.canLay0];exact int_lay _
 refine .eq (py_ivs h) (py_ivs h') hl hl ?_
 rw[SeqAt.eqv_refl _ hl]
 exact q
theorem tab_ne {R E:Addr} {ra:Nat→Addr} {M:Nat→Nat→Int} (h:Tab R ra M σ) (h':σ.lists E=some []) (q:QB false σ):Eq2Go (.lst R) (.lst E) QB σ:=by
 have r: ∀k,k<4→σ.py (.lst (ra k))=some (.list ((row M k).map PyData.int)):=fun k hk=>py_ivs (h.row k hk)
 have e1:σ.py2 (.lst R)=some (.list [.list ((row M 0).map PyData.int),.list ((row M 1).map PyData.int),.list ((row M 2).map PyData.int),.list ((row M 3).map PyData.int)]):=by
  show (match σ.lists R with|some xs=>(allSome σ.py xs).map PyData.list|none=>none)=_
  rw[h.top]
  simp only[allSome]
  rw[r 0 (by decide),r 1 (by decide),r 2 (by decide),r 3 (by decide)];rfl
 have e2:σ.py2 (.lst E)=some (.list []):=by
  show (match σ.lists E with|some xs=>(allSome σ.py xs).map PyData.list|none=>none)=_
  rw[h'];rfl
 refine ⟨_,_,e1,e2,?_,?_,?_⟩
 ·simp only[PyData.canLay0,PyData.canLayAll0,int_lay,Bool.and_self]
 ·simp only[PyData.canLay0,PyData.canLayAll0]
 ·rw[PyData.eqv,PyData.eqvAll];exact q
theorem val2 (n:Nat):val n ([2^n-1]++[2^n-1])=2^(2*n)-1:=by
 have hp:=Nat.two_pow_pos n
 show (2^n-1)+2^n*((2^n-1)+2^n*0)=_
 have e:2^(2*n)=2^n*2^n:=by rw[Nat.two_mul,Nat.pow_add]
 rw[e,Nat.mul_zero,Nat.add_zero,Nat.mul_sub,Nat.mul_one]
 have:2^n≤2^n*2^n:=Nat.le_mul_of_pos_right _ hp
 lia
theorem stay_map {st:Nat} (h:st∈stayL):mapC st=[st]:=eq_of_beq (List.all_eq_true.mp mc6 st h)
theorem o_muls {c n:Nat} {Q:V→St→Prop} (h1:1<n) (h2:n<100000) (q:Q (.str (S (List.replicate n c))) σ):opPT .Mult (.str (S [c])) (.int (n:Int)) Q σ:=by
 have e:(⟨(List.replicate ((n:Int)).toNat (S [c]).cps).foldl (· ++ ·) #[]⟩:Str)=S (List.replicate n c):=by
  rw[Int.toNat_natCast]
  show (⟨_⟩:Str)=⟨_⟩
  congr 1
  have key: ∀(n:Nat) (acc:List Nat),(List.replicate n (S [c]).cps).foldl (· ++ ·) acc.toArray=(acc++List.replicate n c).toArray:=by
   intro n
   induction n with
   |zero=>intro acc;simp
   |succ n ih=>
    intro acc
    rw[List.replicate_succ,List.foldl_cons,List.replicate_succ]
    have:acc.toArray++(S [c]).cps=(acc++[c]).toArray:=by
     show acc.toArray++[c].toArray=_
     rw[List.append_toArray]
    rw[this,ih];simp
  have:=key n []
  simpa using this
 refine .mulS (by lia) (by lia) rfl ?_ ?_
 ·rw[e,S_len,List.length_replicate];exact Nat.le_trans (Nat.le_of_lt h2) (Nat.le_of_ble_eq_true rfl)
 ·rw[e];exact q
theorem lev_chk:(∀c∈L4,lev [c-32] [c] 1=1)∧lev [102] [116] 2=2∧lev (List.replicate 41 102) [116] 99=100∧lev (List.replicate 20 102++[116]++List.replicate 19 102) [116] 78=78:=by decide+kernel
theorem rep_ok:(∀c∈List.replicate 41 102,okc c=true)∧(∀c∈List.replicate 20 102++[116]++List.replicate 19 102,okc c=true)∧ ∀c∈L4,c<1114112:=by decide+kernel
noncomputable def wtN (c:List Int):List Nat:=(List.range 4).map fun i=>1+((c.getD (3+i) 0).fmod ((10^30:Nat):Int)).toNat
theorem wtN_ok (c:List Int):(wtN c).length=4∧(∀x∈wtN c,x≤10^30)∧(∀x∈wtN c,0<x):=
 ⟨(List.length_map ..).trans List.length_range,fun x hx=>(List.mem_map.mp hx).elim fun i h=>h.2▸Nat.add_comm _ 1▸(fmod_lt (x:=c.getD (3+i) 0) (s:=10^30) (by decide)).1,fun x hx=>(List.mem_map.mp hx).elim fun i h=>h.2▸Nat.lt_of_lt_of_le Nat.one_pos (Nat.le_add_right _ _)⟩
theorem wt_next (c:List Int) {i:Nat} (hi:i<4):(wtN c).take (i+1)=(wtN c).take i++[1+((c.getD (3+i) 0).fmod ((10^30:Nat):Int)).toNat]:=by
 rw[List.take_add_one]
 refine congrArg ((wtN c).take i++ ·) ?_
 unfold wtN
 rw[List.getElem?_map,List.getElem?_range hi];rfl
theorem wt_lt {x:Nat} (h:x≤10^30):x<2^100:=Nat.lt_of_le_of_lt h (by decide+kernel)
theorem pw30:(10:Int)^(30:Int).toNat=((10^30:Nat):Int):=by decide+kernel
theorem pow_sub1 (m:Nat):(2:Int)^m-1=((2^m-1:Nat):Int):=by
 rw[n_pow];exact sub_int (Nat.two_pow_pos m)
theorem hd_get: ∀{w:List Nat},w.length=8→(w.map chV)[0]? =some (V.str (S [w.getD 0 0]))
 |_::_,_=>rfl
noncomputable def kb (l:List Nat):List Nat:=l.filter fun c:Nat=> !setIn b1L (c:Int)
theorem kb_pos {u:Nat} (c:setIn b1L (u:Int)=false) (l:List Nat):kb (l++[u])=kb l++[u]:=(List.filter_append ..).trans (congrArg (kb l++ ·) (List.filter_cons_of_pos (p:=fun c:Nat=> !setIn b1L (c:Int)) (by rw[c];rfl)))
theorem kb_neg {u:Nat} (c:setIn b1L (u:Int)=true) (l:List Nat):kb (l++[u])=kb l:=(List.filter_append ..).trans ((congrArg (kb l++ ·) (List.filter_cons_of_neg (p:=fun c:Nat=> !setIn b1L (c:Int)) (by rw[c];exact Bool.noConfusion))).trans (List.append_nil _))
theorem kb_len (f:Nat→V) (l:List Nat) (i:Nat):((kb (l.take i)).map f).length≤i:=by
 rw[List.length_map];exact Nat.le_trans (List.length_filter_le ..) (List.length_take_le ..)
theorem chv_get {K:List Nat} {i:Nat} {v:V} (h:(K.map chV)[i]? =some v): ∃u,v= .str (S [u])∧K.take (i+1)=K.take i++[u]∧i<K.length:=by
 rw[List.getElem?_map] at h
 cases e:K[i]? with
 |none=>rw[e] at h;cases h
 |some u=>
  rw[e] at h
  cases h
  exact ⟨u,rfl,by rw[List.take_add_one,e];rfl,(List.getElem?_eq_some_iff.mp e).1⟩
inductive LwN (w wt:List Nat) (c7:Int) (n:Nat) (M:Nat→Nat→Int):Prop
 |mk (n0:0<n) (nh:n≤463) (wid:400+c7.fmod ((64:Nat):Int)=(n:Int)) (exp:2600+c7.fmod ((64:Nat):Int)=((2600+(c7.fmod ((64:Nat):Int)).toNat:Nat):Int)) (ex:2600+(c7.fmod ((64:Nat):Int)).toNat≤2663)
  (dl:digs n (val n (dueL w wt)) 16=dueL w wt) (dn:ndig n (val n (dueL w wt))=16) (td:digs n (2^(2*n)-1) 2=[2^n-1]++[2^n-1]) (tn:ndig n (2^(2*n)-1)=2) (zn:ndig n 0=0)
  (A1: ∀k i j,k<3→k<i→i<4→k<j→j<4→mA M ((val n (dueL w wt):Nat):Int) k k k*mA M ((val n (dueL w wt):Nat):Int) k i j-mA M ((val n (dueL w wt):Nat):Int) k i k*mA M ((val n (dueL w wt):Nat):Int) k k j=mH M k*mA M ((val n (dueL w wt):Nat):Int) (k+1) i j) (A2: ∀k i j,k<3→ ¬(k<i∧k<j)→mA M ((val n (dueL w wt):Nat):Int) (k+1) i j=mA M ((val n (dueL w wt):Nat):Int) k i j)
  (A3:mH M 0=1) (A4: ∀k,k<3→mH M (k+1)=mA M ((val n (dueL w wt):Nat):Int) (k+1) k k) (A5: ∀k,k<3→mH M k≠0) (A6: ∀k i j,k<3→Builtin.Int.intBits (mA M ((val n (dueL w wt):Nat):Int) k i j)≤11420) (A7: ∀k,k<3→Builtin.Int.intBits (mH M k)≤11420):LwN w wt c7 n M
theorem dueD_top {w wt:List Nat} (hWO:WordOk w) (wl:wt.length=4) (wp0: ∀x∈wt,0<x):0<dueD w wt 15:=by
 have hr:(if ringsN w (matesN w) (kp 15 4)=1 then (1:Int) else 0)=1:=hWO.ring 15 (by decide)
 unfold dueD
 split
 ·exact wp_pos wp0 wl 15 4 (Nat.le_refl _)
 ·next h=>rw[if_neg h] at hr;cases hr
theorem law_nums {w wt:List Nat} (c7:Int) (hWO:WordOk w) (wl:wt.length=4) (wb: ∀x∈wt,x≤10^30) (wp0: ∀x∈wt,0<x):LwN w wt c7 (widN c7) (matF (sgn c7) (widN c7) wt (enW w)):=by
 have m:=mat_ok (w:=w) (c7:=c7) hWO wl wb wp0
 have A:=mA_ok (M:=matF (sgn c7) (widN c7) wt (enW w)) (dt:=((val (widN c7) (dueL w wt):Nat):Int)) m.1 (skew _ _ _ _ (by decide)) (skew _ _ _ _ (by decide)) (skew _ _ _ _ (by decide)) (skew _ _ _ _ (by decide)) (skew _ _ _ _ (by decide)) (skew _ _ _ _ (by decide)) m.2.2.2.symm m.2.1 m.2.2.1
 have h4:400≤widN c7:=Nat.le_add_right _ _
 have hq:=fmod_lt (x:=c7) (s:=64) (by decide)
 have hwid:400+c7.fmod ((64:Nat):Int)=(widN c7:Int):=congrArg (400+ ·) hq.2
 have hh:=widN_le c7
 clear m
 generalize matF (sgn c7) (widN c7) wt (enW w)=M at A
 generalize widN c7=n at A h4 hwid hh
 have n0:0<n:=Nat.lt_of_lt_of_le (by decide) h4
 have hl: ∀x∈(List.range 15).map (dueD w wt),x<2^n:=fun x hx=>(List.mem_map.mp hx).elim fun i h=>h.2▸dueD_lt wb wl n i h4
 have htop:=dueD_top hWO wl wp0
 have d1:=digits_val n0 hl htop (dueD_lt wb wl n 15 h4)
 have d2:=ndig_val n0 hl htop (dueD_lt wb wl n 15 h4)
 rw[show (List.range 15).map (dueD w wt)++[dueD w wt 15]=dueL w wt from rfl] at d1 d2
 replace d2:ndig n (val n (dueL w wt))=16:=d2
 have h1:2^n-1<2^n:=Nat.sub_lt (Nat.two_pow_pos n) Nat.one_pos
 have h0:0<2^n-1:=Nat.sub_pos_of_lt (Nat.lt_of_lt_of_le (by decide:1<2^1) (Nat.pow_le_pow_right (by decide) n0))
 have h2: ∀x∈[2^n-1],x<2^n:=List.forall_mem_cons.mpr ⟨h1,nofun⟩
 have e1:=digits_val n0 h2 h0 h1
 have e2:=ndig_val n0 h2 h0 h1
 rw[val2] at e1 e2
 replace e2:ndig n (2^(2*n)-1)=2:=e2
 rw[d2] at d1
 rw[e2] at e1
 refine ⟨n0,hh,hwid,congrArg (2600+ ·) hq.2,Nat.add_le_add_left (Nat.le_of_lt_succ hq.1) 2600,d1,d2,e1,e2,?_,A.1,A.2.1,A.2.2.1,A.2.2.2.1,A.2.2.2.2.1,A.2.2.2.2.2.1,A.2.2.2.2.2.2⟩
 unfold ndig
 rw[show Builtin.Int.intBits ((0:Nat):Int)=0 by kernel_rfl]
 exact Nat.div_eq_of_lt (by rw[Nat.zero_add];exact Nat.sub_lt n0 Nat.one_pos)
end
section
variable {C:Ctx} {k:Nat}
inductive LwC (L:List Nat) (σ3:St) (B:Addr) (i:Nat) (ys:List V) (σc:St):Prop
 |mk (h1:σc.lists B=some ys) (h4:ys=(kb (L.take i)).map (fun c=>V.str (mapB3 c))) (h5:LE σ3 σc):LwC L σ3 B i ys σc
inductive LwD (Ce:Addr) (c:List Int) (B:Addr) (i:Nat) (ys:List V) (σc:St):Prop
 |mk (h1:σc.vars 2=some (.lst Ce)) (h2:σc.lists B=some ys) (h3:σc.lists Ce=some (ivs c)) (h4:ys=nints ((wtN c).take i)):LwD Ce c B i ys σc
inductive LwS (Ce Wd:Addr) (st:Nat) (w:List Nat) (c:List Int) (τ:St):Prop
 |mk (v1:τ.vars 1=some (.lst Ce)) (v2:τ.vars 2=some (.lst Wd)) (v4:τ.vars 4=some (.str (S [st]))) (v6:τ.vars 6=some (.str (S (w++[st])))) (lC:τ.lists Ce=some (ivs c)) (lW:τ.lists Wd=some (w.map chV)):LwS Ce Wd st w c τ
theorem con_law (W:Wk C) (h1:FnSound C k W.a__int2digits (T_i2d 15)) (h2:FnSound C k W.a__law_cells T_cells) (h3:FnSound C k W.a__law_cleared T_cleared) (h4:FnSound C k W.a__law_due T_due) (h5:FnSound C k W.a__law_table T_table) (h6:FnSound C k W.a__law_typed T_typed)
  (h7:FnSound C k W.a__law_word T_word) (h8:FnSound C k W.a__levenshtein_distance T_lev) (h9:FnSound C k W.a_in_table_b1 T_b1) (h10:FnSound C k W.a_map_table_b3 T_b3) (scr:List Int) (hs:scr.length≤63) (ds:List V) (Q:V→St→Prop) (σ:St) (t:T_law scr ds Q σ):
  fnCon 1 (Wlaw2 W h1 h2 h3 h4 h5 h6 h7 h8 h9 h10).1 ds Q σ:=by
 refine t.casesOn fun hds q=>?_
 rw[hds]
 clear t hds ds
 refine fn_con rfl ?_
 unfold Wlaw2
 dsimp only
 rw[str_nil]
 generalize hT:(ptSeq (ptIf (ptCmp CmpOp.NotEq (ptVar 6) _) _ _) _:PT Fl)=T
 repeat walk_at "mine"
 refine ⟨scr,rfl,hs,fun σ1 Ce c x1 _ lC hc=>?_⟩
 clear x1
 have hci:=fun i (h:i<9)=>ivs_get (c:=c) (i:=i) (hc▸h)
 repeat walk_at "mine"
 refine it_lst (i:=0) (xs:=ivs c) lC (hci 0 (by decide)) (by decide) ?_
 repeat walk_at "mine"
 refine ⟨c.getD 0 0,rfl,fun σ2 Wd a b c' d e f x2 _ ha hb hc' hd he hf lW=>?_⟩
 have hWO:=word_ok ha hb hc' hd he hf
 generalize wordN a b c' d e f=w at hWO lW
 have lC2:=x2.lists Ce _ lC
 clear ha hb hc' hd he hf x2 lC a b c' d e f
 have hwl:=hWO.len
 have fin: ∀(st:Nat),st∈stayL→ ∀τ:St,LwS Ce Wd st w c τ→T (fnK Q σ) τ:=by
  clear lC2 lW
  intro st hst τ s
  have hw0:w.getD 0 0∈L4:=hWO.let4 _ (getD_mem (by rw[hwl];decide))
  refine s.casesOn fun a1 a2 a4 a6 lC lW=>?_
  clear s
  rw[←hT,show Str.ofString "f" =S [102] by kernel_rfl,show Str.ofString "t" =S [116] by kernel_rfl]
  generalize hT2:(ptSeq (ptAsgComp 7 _) _:PT Fl)=T2
  have fin2: ∀τ:St,τ.vars 1=some (.lst Ce)→τ.vars 6=some (.str (S (w++[st])))→τ.lists Ce=some (ivs c)→T2 (fnK Q σ) τ:=by
   clear a1 a2 a4 a6 lC lW hT hw0
   intro τ a1 a6 lC
   rw[←hT2]
   generalize hT3:(ptSeq (ptAsgs [atName 8] _) _:PT Fl)=T3
   have wk:=wtN_ok c
   have fin3: ∀(Wt:Addr) (τ:St),τ.vars 1=some (.lst Ce)→τ.vars 6=some (.str (S (w++[st])))→τ.vars 7=some (.lst Wt)→τ.lists Ce=some (ivs c)→τ.lists Wt=some (nints (wtN c))→T3 (fnK Q σ) τ:=by
    clear a1 a6 lC hT2
    intro Wt τ a1 a6 a7 lC lWt
    have nums:=law_nums (c.getD 7 0) hWO wk.1 wk.2.1 wk.2.2
    rw[←hT3]
    repeat walk_at "mine"
    refine ⟨w,st,Wt,Ce,wtN c,c,enW w,rfl,hwl,hWO.let4,hst,lWt,wk.1,fun x hx=>bits_of (wt_lt (wk.2.1 x hx)),lC,hc,hWO.ent,fun σ6 R ra x6 tab hR hra=>?_⟩
    replace hra: ∀k,k<4→τ.lists (ra k)=none:=hra
    have hWra: ∀k,k<4→Wt≠ra k:=fun k hk=>lk_ne (hra k hk) lWt
    have lC6:=x6.lists Ce _ lC
    have lWt6:=x6.lists Wt _ lWt
    clear hra lC lWt x6 hT3 hR
    generalize matF (sgn (c.getD 7 0)) (widN (c.getD 7 0)) (wtN c) (enW w)=M at tab nums
    generalize widN (c.getD 7 0)=n at nums
    refine nums.casesOn fun n0 nh wid exp ex dl dn td tn zn A1 A2 A3 A4 A5 A6 A7=>?_
    clear nums
    have n25:n≤2^25:=Nat.le_trans nh (by decide)
    have nm:n*16≤2^25:=Nat.le_trans (Nat.mul_le_mul_right 16 nh) (by decide)
    repeat walk_at "mine"
    refine p_eq2 ?_
    repeat walk_at "mine"
    refine ⟨Nat.le_of_ble_eq_true rfl,fun E hE=>?_⟩
    replace hE:σ6.lists E=none:=hE
    have leE:LE σ6 (setL σ6 E []):=LE.refl.setL hE
    have tabE: ∀vs ro,Tab R ra M (setL ⟨vs,σ6.lists,ro⟩ E []):=fun vs ro=>tab.to leE
    refine tab_ne (tabE _ _) setL_get ?_
    repeat walk_at "mine"
    refine it_lst (i:=7) (xs:=ivs c) (leE Ce _ lC6) (hci 7 (by decide)) (by decide) ?_
    repeat walk_at "mine"
    refine o_mod (by decide) ?_
    refine o_addE wid ?_
    repeat walk_at "mine"
    refine o_mulE (c:=((2*n:Nat):Int)) rfl (mulS (a:=2) (by decide) (Nat.lt_of_le_of_lt nh (by decide))) ?_
    refine o_pow (Int.natCast_nonneg _) (Int.ofNat_le.mpr (Nat.le_trans (Nat.mul_le_mul_left 2 nh) (by decide))) (by decide) ?_
    rw[Int.toNat_natCast]
    repeat walk_at "mine"
    refine o_subE (pow_sub1 _) ?_
    repeat walk_at "mine"
    refine ⟨2^(2*n)-1,n,rfl,n0,n25,by rw[tn];decide,by rw[tn];decide,by rw[tn];exact Nat.le_trans (Nat.mul_le_mul_left n (by decide)) nm,fun D σ7 x7 _ lD=>?_⟩
    rw[tn,td] at lD
    have le7:LE σ6 σ7:=fun b xs e=>x7.lists b xs (leE b xs e)
    clear x7 tabE leE hE
    repeat walk_at "mine"
    refine o_pow (Int.natCast_nonneg _) (Int.ofNat_le.mpr (Nat.le_trans nh (by decide))) (by decide) ?_
    rw[Int.toNat_natCast]
    repeat walk_at "mine"
    refine o_subE (pow_sub1 _) ?_
    repeat walk_at "mine"
    refine o_pow (Int.natCast_nonneg _) (Int.ofNat_le.mpr (Nat.le_trans nh (by decide))) (by decide) ?_
    rw[Int.toNat_natCast]
    repeat walk_at "mine"
    refine o_subE (pow_sub1 _) ?_
    repeat walk_at "mine"
    refine ⟨Nat.le_of_ble_eq_true rfl,fun E2 hE2=>?_⟩
    replace hE2:σ7.lists E2=none:=hE2
    refine c_neN (l:=[2^n-1]++[2^n-1]) ((setL_other (lk_ne hE2 lD)).trans lD) setL_get ?_
    repeat walk_at "mine"
    refine ⟨0,n,rfl,n0,n25,by rw[zn];decide,by rw[zn];decide,by rw[zn];exact Nat.zero_le _,fun D2 σ8 x8 _ lD2=>?_⟩
    rw[zn] at lD2
    have le8:LE σ6 σ8:=fun b xs e=>x8.lists b xs (le7.setL (le7.none hE2) b xs e)
    clear x8 le7 lD hE2
    repeat walk_at "mine"
    refine ⟨Nat.le_of_ble_eq_true rfl,fun E3 hE3=>?_⟩
    replace hE3:σ8.lists E3=none:=hE3
    refine c_neN (l:=[]) ((setL_other (lk_ne hE3 lD2)).trans lD2) setL_get ?_
    have le9:LE σ6 (setL σ8 E3 []):=le8.setL (le8.none hE3)
    clear le8 lD2 hE3
    repeat walk_at "mine"
    refine it_lst (i:=7) (xs:=ivs c) (le9 Ce _ lC6) (hci 7 (by decide)) (by decide) ?_
    repeat walk_at "mine"
    refine o_mod (by decide) ?_
    refine o_addE exp ?_
    repeat walk_at "mine"
    refine it_lst (i:=8) (xs:=ivs c) (le9 Ce _ lC6) (hci 8 (by decide)) (by decide) ?_
    repeat walk_at "mine"
    refine ⟨R,ra,2600+((c.getD 7 0).fmod ((64:Nat):Int)).toNat,c.getD 8 0,mA M ((val n (dueL w (wtN c)):Nat):Int),mH M,rfl,ex,Tab.to tab le9,A1,A2,A3,A4,A5,A6,A7,fun σ9 hσ9 hv9 hr9=>?_⟩
    rw[show mA M ((val n (dueL w (wtN c)):Nat):Int) 3 3 3=((val n (dueL w (wtN c)):Nat):Int) from rfl]
    have lWt9:σ9.lists Wt=some (nints (wtN c)):=hσ9 Wt _ hWra (le9 Wt _ lWt6)
    clear hσ9 hv9 hr9 le9 lC6 lWt6 hWra tab A1 A2 A3 A4 A5 A6 A7
    repeat walk_at "mine"
    refine ⟨val n (dueL w (wtN c)),n,rfl,n0,n25,by rw[dn];decide,by rw[dn];decide,by rw[dn];exact nm,fun D3 σ10 x10 _ lD3=>?_⟩
    rw[dn,dl] at lD3
    repeat walk_at "mine"
    refine ⟨w,st,Wt,wtN c,rfl,hwl,fun z hz=>rep_ok.2.2 z (hWO.let4 z hz),x10.lists Wt _ lWt9,wk.1,fun x hx=>wt_lt (wk.2.1 x hx),hWO.mate,fun σ11 D4 x11 _ lD4=>?_⟩
    refine c_eqN (x11.lists D3 _ lD3) lD4 ?_
    exact q _
   repeat walk_at "mine"
   refine p_rg1 (n:=4) rfl (by decide) ?_
   refine CompGo.mk (LwD Ce c) ?_ ?_ ?_ ?_
   ·intro B hB
    exact ⟨a1,if_pos rfl,(if_neg (lk_ne hB lC)).trans lC,rfl⟩
   ·exact fun B i ys σc _ _ h=>h.casesOn fun _ h _ _=>⟨h,trivial⟩
   ·intro B i ys v σc hB hx h
    refine h.casesOn fun v2 cB cC hy=>?_
    have hi:=range_int hx
    rw[hi.2]
    replace hi:=hi.1
    have hBC:=lk_ne hB lC
    have hm:=(fmod_lt (x:=c.getD (3+i) 0) (s:=10^30) (by decide)).2
    clear h hx hB fin3 a1 a6 lC hT3
    repeat walk_at "mine"
    refine o_addE (c:=((3+i:Nat):Int)) rfl ?_
    refine it_lst (i:=3+i) (xs:=ivs c) cC (hci (3+i) (Nat.lt_trans (Nat.add_lt_add_left hi 3) (by decide))) (idx63 (Nat.add_lt_add_left hi 3) (by decide)) ?_
    repeat walk_at "mine"
    refine o_pow (by decide) (by decide) (by decide) ?_
    rw[pw30]
    refine o_modE hm (by decide+kernel) ?_
    refine o_addE (c:=((1+((c.getD (3+i) 0).fmod ((10^30:Nat):Int)).toNat:Nat):Int)) (Int.natCast_add ..).symm ?_
    refine ⟨cB,small_ys (hy▸(show (nints ((wtN c).take i)).length≤i from tk_len _ _ i)) hi (by decide),v2,setL_get,(setL_other hBC).trans cC,?_⟩
    rw[wt_next c hi,nints_app,hy];rfl
   ·intro Wt ys σ5 hWt h
    refine h.casesOn fun v2 lWt lC5 hy=>?_
    rw[List.length_map,List.length_range,←wk.1,List.take_length] at hy
    rw[hy] at lWt
    clear h hWt
    repeat walk_at "mine"
    exact fin3 Wt _ a1 a6 rfl lC5 lWt
  clear hT2
  repeat walk_at "mine"
  refine m_join (ls:=w.map fun c=>[c]) (lW.trans (by rw[List.map_map,List.map_map];rfl)) (by rw[ones,hwl];decide) ?_
  rw[flat1]
  repeat walk_at "mine"
  refine o_addS (by rw[hwl];exact Nat.le_of_ble_eq_true rfl) ?_
  refine c_nesF rfl ?_
  repeat walk_at "mine"
  refine it_lst (i:=0) lW (hd_get hwl) (by decide) ?_
  repeat walk_at "mine"
  refine m_upper (Nat.le_of_ble_eq_true rfl) ?_
  rw[(mc5' hw0).2.1]
  repeat walk_at "mine"
  refine it_lst (i:=0) lW (hd_get hwl) (by decide) ?_
  repeat walk_at "mine"
  refine ⟨[w.getD 0 0-32],[w.getD 0 0],1,rfl,Nat.le_of_ble_eq_true rfl,Nat.le_of_ble_eq_true rfl,List.forall_mem_cons.mpr ⟨(L4_okc _ hw0).2,nofun⟩,List.forall_mem_cons.mpr ⟨(L4_okc _ hw0).1,nofun⟩,fun σ5 x5=>?_⟩
  rw[lev_chk.1 _ hw0]
  repeat walk_at "mine"
  refine c_neiF rfl ?_
  repeat walk_at "mine"
  refine ⟨[102],[116],2,rfl,Nat.le_of_ble_eq_true rfl,Nat.le_of_ble_eq_true rfl,by decide,by decide,fun σ6 x6=>?_⟩
  rw[lev_chk.2.1]
  repeat walk_at "mine"
  refine c_neiF rfl ?_
  repeat walk_at "mine"
  refine o_muls (n:=41) (by decide) (by decide) ?_
  repeat walk_at "mine"
  refine ⟨List.replicate 41 102,[116],99,rfl,Nat.le_of_ble_eq_true rfl,Nat.le_of_ble_eq_true rfl,rep_ok.1,by decide,fun σ7 x7=>?_⟩
  rw[lev_chk.2.2.1]
  repeat walk_at "mine"
  refine c_neiF rfl ?_
  repeat walk_at "mine"
  refine o_muls (n:=20) (by decide) (by decide) ?_
  repeat walk_at "mine"
  refine o_addS (Nat.le_of_ble_eq_true rfl) ?_
  repeat walk_at "mine"
  refine o_muls (n:=19) (by decide) (by decide) ?_
  refine o_addS (Nat.le_of_ble_eq_true rfl) ?_
  repeat walk_at "mine"
  refine ⟨List.replicate 20 102++[116]++List.replicate 19 102,[116],78,rfl,Nat.le_of_ble_eq_true rfl,Nat.le_of_ble_eq_true rfl,rep_ok.2.1,by decide,fun σ8 x8=>?_⟩
  rw[lev_chk.2.2.2]
  repeat walk_at "mine"
  refine c_neiF rfl ?_
  repeat walk_at "mine"
  exact fin2 _ a1 a6 (x8.lists Ce _ (x7.lists Ce _ (x6.lists Ce _ (x5.lists Ce _ lC))))
 clear hT
 repeat walk_at "mine"
 refine ⟨Nat.le_of_ble_eq_true rfl,fun Sy hSy=>?_⟩
 replace hSy:σ2.lists Sy=none:=hSy
 have lCS:=fun xs=>(setL_other (σ:=σ2) (xs:=xs) (lk_ne hSy lC2)).trans lC2
 have lWS:=fun xs=>(setL_other (σ:=σ2) (xs:=xs) (lk_ne hSy lW)).trans lW
 clear lC2 lW hSy
 repeat walk_at "mine"
 refine it_lst (i:=2) (xs:=ivs c) (lCS _) (hci 2 (by decide)) (by decide) ?_
 repeat walk_at "mine"
 refine o_div (by decide) (by decide) ?_
 repeat walk_at "mine"
 have si:=fmod_lt (x:=(c.getD 2 0).fdiv 65536) (s:=16) (by decide)
 generalize (((c.getD 2 0).fdiv 65536).fmod ((16:Nat):Int)).toNat=sn at si
 refine o_modE si.2 (by decide) ?_
 refine Exists.elim (⟨_,List.getElem?_eq_getElem si.1⟩: ∃st,stayL[sn]? =some st) fun st hst1=>?_
 have hst:=List.mem_of_getElem? hst1
 rw[show [V.int 172,V.int 174,V.int 846,V.int 848,V.int 6149,V.int 6151,V.int 6154,V.int 6158,V.int 8202,V.int 8206,V.int 8287,V.int 8289,V.int 65023,V.int 65040,V.int 65278,V.int 65280]=nints stayL from rfl]
 refine it_lst (i:=sn) (xs:=nints stayL) (y:= .int (st:Int)) setL_get (by unfold nints;rw[List.getElem?_map,hst1];rfl) (idx63 si.1 (by decide)) ?_
 clear si hst1
 repeat walk_at "mine"
 refine bi_chr (Nat.le_of_lt_succ (stay_ok st hst).2.2.1) ?_
 repeat walk_at "mine"
 refine it_lst (i:=1) (xs:=ivs c) (lCS _) (hci 1 (by decide)) (by decide) ?_
 repeat walk_at "mine"
 refine ⟨Wd,c.getD 1 0,w,rfl,lWS _,hwl,hWO.let4,fun σ3 tx x3 hpx htl=>?_⟩
 have lC3:=x3.lists Ce _ (lCS _)
 have lW3:=x3.lists Wd _ (lWS _)
 clear x3 lCS lWS
 repeat walk_at "mine"
 refine o_addS (Nat.le_trans (Nat.add_le_add_right htl 1) (by decide)) ?_
 repeat walk_at "mine"
 have hpL:prepF (tx++[st])=w++[st]:=by rw[prep_app,hpx,prep_one,stay_map hst]
 have hLl:(tx++[st]).length≤17:=len1 htl
 generalize tx++[st]=L at hpL hLl⊢
 clear hpx htl
 refine ⟨S L,rfl,?_⟩
 rw[show strIter (S L)=L.map chV from rfl]
 refine CompGo.mk (LwC L σ3) ?_ ?_ ?_ ?_
 ·intro B hB
  exact ⟨if_pos rfl,rfl,LE.refl.setL (σ:=σ3) hB⟩
 ·exact fun B i ys σc _ _ h=>h.casesOn fun h _ _=>⟨h,trivial⟩
 ·intro B i ys v σc hB hx h
  refine h.casesOn fun cB hy le=>?_
  refine (chv_get hx).elim fun u hu=>?_
  rw[hu.1]
  replace hB:σ3.lists B=none:=hB
  clear h hx fin lC3 lW3
  repeat walk_at "mine"
  refine ⟨u,rfl,?_⟩
  repeat walk_at "mine"
  refine c_isB ?_
  cases cs:setIn b1L (u:Int) with
  |true=>
   show if false=true then _ else _
   repeat walk_at "mine"
   exact ⟨cB,by rw[hu.2.1,kb_neg cs];exact hy,le⟩
  |false=>
   show if true=true then _ else _
   repeat walk_at "mine"
   refine ⟨u,rfl,?_⟩
   exact ⟨cB,small_ys (hy▸kb_len _ _ i) hu.2.2 (Nat.le_trans hLl (by decide)),setL_get,by rw[hu.2.1,kb_pos cs,List.map_append,hy];rfl,le.setL hB⟩
 ·intro B ys σ4 hB h
  refine h.casesOn fun cB hy le4=>?_
  rw[List.length_map,List.take_length] at hy
  clear h hB
  repeat walk_at "mine"
  refine m_join (ls:=(kb L).map fun c=>(mapB3 c).cps.toList) (cB.trans (by rw[hy,List.map_map,List.map_map];rfl)) ?_ ?_
  ·rw[←List.length_flatten,show ((kb L).map fun c=>(mapB3 c).cps.toList).flatten=w++[st] from (prep_flat L).trans hpL,List.length_append,hwl];exact Nat.le_of_ble_eq_true rfl
  rw[show ((kb L).map fun c=>(mapB3 c).cps.toList).flatten=w++[st] from (prep_flat L).trans hpL]
  repeat walk_at "mine"
  exact fin st hst _ ⟨rfl,rfl,rfl,rfl,le4 Ce _ lC3,le4 Wd _ lW3⟩
end
end
section
open PySem PySem.Spec PySem.Calls PyProof.Rows PySem.W
theorem law_sound (C:Ctx) (W:Wk C) (T:Wt C W) (N:Wn C W) (hS:T.S1=setIn b1L) (hF:T.F3=F3L) (hG:C.gOk=AllBare) (hs:C.scr.length≤63):FnSound C 100 W.a_law (T_law C.scr):=
 FnSound.le (k:=23) (FnSound.weak (fnAt_sound (k:=22) (m:=1) W W.f_law (Wlaw2 W ((i2d_sound W N 15).le (by decide)) ((cells_sound W).le (by decide)) (cleared_sound W N) ((due_sound W).le (by decide)) ((table_sound W hG).le (by decide)) ((typed_sound W).le (by decide)) ((word_sound W).le (by decide)) ((lev_sound W).le (by decide)) ((b1_sound W T hS).le (by decide)) ((b3_sound W T hF).le (by decide))).2 (fun pm cd doc vs h=>by
    obtain ⟨a,rfl⟩:=bind1 h
    rfl) (by kernel_rfl)) fun ds Q σ t=>con_law W _ _ _ _ _ _ _ _ _ _ C.scr hs ds Q σ t) (by decide)
theorem all_done:PySem.Challenge.rw_uc0050_01.Holds:=
 holds_by fun C W T hp N hS hF hG hs=>law_sound C W T N hS hF hG hs
end
end Mine
theorem PySem.Challenge.cw_uc0050_01_holds : PySem.Challenge.rw_uc0050_01.Holds :=
 Mine.all_done
