import PyProof.Rows.All
import Wide.All
import OpenK.AllK
import Wide.FinOn
import KE.KCallOwn
import KE.KSuperObj
import KE.KPar
import KE.KBoundM
import PyProof.ZipIter
import PyProof.Rows.ListMul
import KE.KDictIter
import KE.KxBytes
import PyProof.Rows.CallKwBuiltin
import PyProof.DefMake
import KE.KLam
import Lean
import PySem.Challenge.RW_in0222_01
set_option Elab.async false
set_option maxRecDepth 100000
set_option linter.unusedVariables false
set_option linter.unusedSectionVars false
section SM1
open PySem PySem.Calls PyProof.Rows
set_option Elab.async false
set_option maxRecDepth 100000
namespace Mine
inductive PV where
 | raw (v:Value)
 | int (i:Int)
 | str (x:Str)
 | byt (b:Array UInt8)
 | tup (l:List PV)
 | lst (l:List PV)
abbrev tupObj (items:Array Value) (n:Nat):Obj:={ cls:=.type "tuple",data:=.seq items n }
abbrev lstObj (items:Array Value) (n:Nat):Obj:={ cls:=.type "list",data:=.seq items n }
mutual
inductive VR (h:Heap) (own:List Addr):PV→Value→Prop
 | raw (v:Value):VR h own (.raw v) v
 | int (i:Int) (t:Tok):VR h own (.int i) (.int i t)
 | str (x:Str) (t:Tok):VR h own (.str x) (.str x t)
 | byt (b:Array UInt8) (t:Tok):VR h own (.byt b) (.bytes b t)
 | tup {l:List PV} {a:Addr} {items:Array Value} {n:Nat} (ha:a∉own) (ho:h.get? a=some (tupObj items n)) (hl:VRs h own l items.toList):VR h own (.tup l) (.ref a)
 | lst {l:List PV} {a:Addr} {items:Array Value} {n:Nat} (ha:a∉own) (ho:h.get? a=some (lstObj items n)) (hl:VRs h own l items.toList):VR h own (.lst l) (.ref a)
inductive VRs (h:Heap) (own:List Addr):List PV→List Value→Prop
 | nil:VRs h own [] []
 | cons {p:PV} {v:Value} {ps:List PV} {vs:List Value} (hv:VR h own p v) (hs:VRs h own ps vs):VRs h own (p :: ps) (v :: vs)
end
theorem VRs.length {h:Heap} {own:List Addr}:∀ {ps:List PV} {vs:List Value},VRs h own ps vs→vs.length=ps.length
 | _,_,.nil=>rfl
 | _,_,.cons _ hs=>congrArg (· + 1) hs.length
theorem VRs.get {h:Heap} {own:List Addr}:∀ {ps:List PV} {vs:List Value},VRs h own ps vs→∀ {i:Nat} {p:PV},ps[i]?=some p→∃ v,vs[i]?=some v∧VR h own p v
 | _,_,.nil,i,p,e=>by simp at e
 | _,_,.cons (v:=v) hv hs,0,p,e=>by simp at e; subst e; exact ⟨v,by simp,hv⟩
 | _,_,.cons hv hs,i + 1,p,e=>by
  simp at e
  obtain ⟨v,h1,h2⟩:=hs.get e
  exact ⟨v,by simpa using h1,h2⟩
theorem VRs.append {h:Heap} {own:List Addr} {ps qs:List PV} {vs us:List Value} (a:VRs h own ps vs) (b:VRs h own qs us):VRs h own (ps++qs) (vs++us):=by
 induction ps generalizing vs with
 | nil=>cases a; exact b
 | cons p ps ih=>cases a with | cons hv hs=>exact .cons hv (ih hs)
theorem VRs.take {h:Heap} {own:List Addr} {ps:List PV} {vs:List Value} (a:VRs h own ps vs) (n:Nat):VRs h own (ps.take n) (vs.take n):=by
 induction n generalizing ps vs with
 | zero=>simp; exact .nil
 | succ n ih=>cases a with
  | nil=>simp; exact .nil
  | cons hv hs=>exact .cons hv (ih hs)
theorem VRs.drop {h:Heap} {own:List Addr} {ps:List PV} {vs:List Value} (a:VRs h own ps vs) (n:Nat):VRs h own (ps.drop n) (vs.drop n):=by
 induction n generalizing ps vs with
 | zero=>exact a
 | succ n ih=>cases a with
  | nil=>simp; exact .nil
  | cons hv hs=>exact ih hs
theorem VRs.reverse {h:Heap} {own:List Addr} {ps:List PV} {vs:List Value} (a:VRs h own ps vs):VRs h own ps.reverse vs.reverse:=by
 induction ps generalizing vs with
 | nil=>cases a; exact .nil
 | cons p ps ih=>cases a with
  | cons hv hs=>simp only [List.reverse_cons]; exact (ih hs).append (.cons hv .nil)
def Kp (h h':Heap) (own own':List Addr):Prop :=
 ∀ b o xs n,h.get? b=some o→o.data=.seq xs n→b∉own→h'.get? b=some o∧b∉own'
mutual
theorem VR.mono {h h':Heap} {own own':List Addr} (k:Kp h h' own own'):∀ {p:PV} {v:Value},VR h own p v→VR h' own' p v
 | _,_,.raw v=>.raw v
 | _,_,.int i t=>.int i t
 | _,_,.str i t=>.str i t
 | _,_,.byt i t=>.byt i t
 | _,_,.tup ha ho hl=>.tup (k _ _ _ _ ho rfl ha).2 (k _ _ _ _ ho rfl ha).1 (hl.mono k)
 | _,_,.lst ha ho hl=>.lst (k _ _ _ _ ho rfl ha).2 (k _ _ _ _ ho rfl ha).1 (hl.mono k)
theorem VRs.mono {h h':Heap} {own own':List Addr} (k:Kp h h' own own'):∀ {p:List PV} {v:List Value},VRs h own p v→VRs h' own' p v
 | _,_,.nil=>.nil
 | _,_,.cons hv hs=>.cons (hv.mono k) (hs.mono k)
end
inductive MO where
 | list (l:List PV)
 | inst (dx C:Addr) (att:List (Str × PV)) (body:Option (List PV))
 | obj (o:Obj)
def MO.addrs (a:Addr):MO→List Addr
 | .list _=>[a]
 | .inst dx _ _ _=>[a,dx]
 | .obj _=>[a]
inductive AttR (h:Heap) (own:List Addr):List (Str × PV)→List DictEntry→Prop
 | nil:AttR h own [] []
 | cons {x:Str} {p:PV} {v:Value} {hs:Int} {t:Tok} {att:List (Str × PV)} {es:List DictEntry} (hv:VR h own p v) (r:AttR h own att es):AttR h own ((x,p) :: att) (⟨hs,.str x t,v⟩ :: es)
theorem AttR.mono {h h':Heap} {own own':List Addr} (k:Kp h h' own own') {att:List (Str × PV)} {es:List DictEntry} (r:AttR h own att es):AttR h' own' att es:=by
 induction r with
 | nil=>exact .nil
 | cons hv _ ih=>exact .cons (hv.mono k) ih
def BodyR (h:Heap) (own:List Addr):Option (List PV)→Data→Prop
 | none,d=>d=.plain
 | some l,d=>∃ items n,d=.seq items n∧VRs h own l items.toList
def ZR (h:Heap) (own:List Addr) (a:Addr):MO→Prop
 | .list l=>∃ items n,h.get? a=some (lstObj items n)∧VRs h own l items.toList
 | .inst dx C att body=>∃ d es n,h.get? a=some { cls:=.ref C,dict:=some dx,data:=d }∧BodyR h own body d∧h.get? dx=some { cls:=.type "dict",data:=.dict es n }∧AttR h own att es.toList
 | .obj o=>h.get? a=some o∧(∀ v,o.data≠.cell v)∧o.cls≠.none
structure AS where
 loc:List (Str × PV)
 zone:List (Addr × MO)
def AS.own (σ:AS):List Addr:=σ.zone.flatMap fun z=>z.2.addrs z.1
structure Gl where
 prog:Program
 w:World
 h₁:Heap
 os:OsState
def Named (h:Heap) (env:Env) (x:Str) (v:Value):Prop :=
 (env.kindOf x=some .local∧∃ m,h.Ns env.locals m∧m x=some v) ∨
 ((env.kindOf x=some .cell∨env.kindOf x=some .free)∧∃ c o,env.cells.lookup x=some c∧h.get? c=some o∧o.data=.cell (some v))
def hard (o:Obj):Prop:=o.cls≠.none∨∀ vs,o.data≠.fields vs
def frameLike (o:Obj):Prop:=(∃ es n,o.data=.dict es n)∨∃ v,o.data=.cell v
theorem frameLike.hard {o:Obj} (h:frameLike o):hard o:=by
 rcases h with ⟨es,n,e⟩ | ⟨v,e⟩ <;> exact .inr fun vs q=>by rw [e] at q; cases q
theorem frameLike.notSeq {o:Obj} (h:frameLike o) (xs:Array Value) (n:Nat):o.data≠.seq xs n:=by
 rcases h with ⟨es,n,e⟩ | ⟨v,e⟩ <;> (rw [e]; intro q; cases q)
structure Fm where
 env:Env
 fr:List Addr
def isCellO (o:Obj):Prop:=∃ v,o.data=.cell v
def Cl (F:Fm) (h:Heap):Prop:=∀ x c,F.env.kindOf x=some .cell→F.env.cells.lookup x=some c→c∈F.fr→c≠F.env.locals→∃ o,h.get? c=some o∧isCellO o
theorem Cl.to {F:Fm} {h h':Heap} (k:Cl F h) (hk:∀ b o,h.get? b=some o→isCellO o→h'.get? b=some o):Cl F h':=fun x c a b d e=>let ⟨o,e1,e2⟩:=k x c a b d e; ⟨o,hk c o e1 e2,e2⟩
abbrev tabO (ps:Array Value):Obj:={ cls:=.none,data:=.fields ps }
structure OldT (h₀ h:Heap):Prop where
 k:OldK h₀ h
 tab:∀ P ps₀,h₀.get? P=some (tabO ps₀)→TriplesOk ps₀.toList→∃ ps,h.get? P=some (tabO ps)∧TriplesOk ps.toList
theorem OldT.get_of_cls {h₀ h:Heap} (K:OldT h₀ h) {b:Addr} {o:Obj} (e:h₀.get? b=some o) (hc:o.cls≠.none):h.get? b=some o:=K.k.get_of_cls e hc
theorem OldT.step_keeps {h₀ h h':Heap} (K:OldT h₀ h) (hk:∀ b o,h.get? b=some o→h'.get? b=some o):OldT h₀ h' :=
 ⟨K.k.step_keeps hk,fun P ps e t=>let ⟨ps',e',t'⟩:=K.tab P ps e t; ⟨ps',hk _ _ e',t'⟩⟩
structure Sat (g:Gl) (F:Fm) (σ:AS) (s:Shared):Prop where
 old:OldT g.h₁ s.heap
 lim:s.heap.NoLimit
 os:s.os=g.os
 bare:AllBare s.gens
 nd:(F.fr++σ.own).Nodup
 lo:∀ a∈F.fr++σ.own,g.h₁.objs.size≤a
 zs:∀ z∈σ.zone,ZR s.heap σ.own z.1 z.2
 fr:∀ a∈F.fr,∃ o,s.heap.get? a=some o∧frameLike o
 ns:∃ m,s.heap.Ns F.env.locals m
 nin:F.env.locals∈F.fr
 loc:∀ x p,σ.loc.lookup x=some p→∃ v,Named s.heap F.env x v∧VR s.heap σ.own p v
 cs:cStatics < g.h₁.objs.size
 cl:Cl F s.heap
structure Stp (fr:List Addr) (own:List Addr) (s:Shared) (own':List Addr) (s':Shared):Prop where
 keep:∀ b o,s.heap.get? b=some o→b∉fr→b∉own→hard o→s'.heap.get? b=some o
 there:∀ b o,s.heap.get? b=some o→∃ o',s'.heap.get? b=some o'
 fresh:∀ a∈own',a∈own∨s.heap.get? a=none
 gens:∀ (i:Nat) (x:GenState),s.gens[i]?=some x→s'.gens[i]?=some x
theorem Stp.refl {fr:List Addr} {own:List Addr} {s:Shared}:Stp fr own s own s:=⟨fun _ _ e _ _ _=>e,fun _ o e=>⟨o,e⟩,fun _ h=>.inl h,fun _ _ e=>e⟩
theorem Stp.trans {fr:List Addr} {o₁ o₂ o₃:List Addr} {s₁ s₂ s₃:Shared} (x:Stp fr o₁ s₁ o₂ s₂) (y:Stp fr o₂ s₂ o₃ s₃):Stp fr o₁ s₁ o₃ s₃:=by
 refine ⟨fun b o e nf no hc=>?_,fun b o e=>let ⟨o',e'⟩:=x.there b o e; y.there b o' e',fun a ha=>?_,fun i z e=>y.gens i z (x.gens i z e)⟩
 ·refine y.keep b o (x.keep b o e nf no hc) nf (fun hb=>?_) hc
  rcases x.fresh b hb with q | q
  ·exact no q
  ·rw [e] at q; cases q
 ·rcases y.fresh a ha with q | q
  ·exact x.fresh a q
  ·refine .inr ?_
   cases e:s₁.heap.get? a with
   | none=>rfl
   | some o =>
    obtain ⟨o',e'⟩:=x.there a o e
    rw [e'] at q; cases q
theorem Stp.up {fr own own':List Addr} {s s':Shared} (x:Stp [] own s own' s'):Stp fr own s own' s':=⟨fun b o e _ no hc=>x.keep b o e List.not_mem_nil no hc,x.there,x.fresh,x.gens⟩
theorem Sat.kp {g:Gl} {F:Fm} {σ σ':AS} {s s':Shared} {fr:List Addr} (S:Sat g F σ s) (st:Stp fr σ.own s σ'.own s') (hfr:∀ b∈fr,b∈F.fr:=by first | exact fun _ h=>h | exact fun _ h=>absurd h List.not_mem_nil):Kp s.heap s'.heap σ.own σ'.own:=by
 intro b o xs n e hd no
 have nf:b∉F.fr:=fun hb=>by
  obtain ⟨o',e',h'⟩:=S.fr b hb
  rw [e] at e'; cases e'
  exact h'.notSeq xs n hd
 refine ⟨st.keep b o e (fun h=>nf (hfr b h)) no (.inr fun vs q=>by rw [hd] at q; cases q),fun hb=>?_⟩
 rcases st.fresh b hb with q | q
 ·exact no q
 ·rw [e] at q; cases q
def J {α β:Type} (g:Gl) (A:Around) (F:Fm) (fr:List Addr) (R:Heap→List Addr→β→α→Prop) (t:Sem α) (σ:AS) (P:β→AS→Prop):Prop :=
 ∀ s,Sat g F σ s→∀ (Q:α→Shared→Prop) (E:Value→Shared→Prop),
  (∀ a b σ' s',P b σ'→Sat g F σ' s'→R s'.heap σ'.own b a→Stp fr σ.own s σ'.own s'→Q a s')→wpAny (model g.prog g.w) A t Q E s
def EQ {α:Type} (_:Heap) (_:List Addr) (b a:α):Prop:=a=b
inductive Fl where
 | next | brk | cont
 | ret (p:PV)
inductive FlR (h:Heap) (own:List Addr):Fl→Flow→Prop
 | next:FlR h own .next .next
 | brk:FlR h own .brk .brk
 | cont:FlR h own .cont .cont
 | ret {p:PV} {v:Value} (hv:VR h own p v):FlR h own (.ret p) (.ret v)
abbrev EV (g:Gl) (A:Around) (F:Fm) (e:Expr) (σ:AS) (P:PV→AS→Prop):Prop:=J g A F [] VR (eval e F.env) σ P
abbrev TR (g:Gl) (A:Around) (F:Fm) (e:Expr) (σ:AS) (P:Bool→AS→Prop):Prop:=J g A F [] EQ (isTrue e F.env (eval e F.env)) σ P
abbrev EX (g:Gl) (A:Around) (F:Fm) (st:Stmt) (σ:AS) (P:Fl→AS→Prop):Prop:=J g A F F.fr FlR (exec st F.env) σ P
abbrev EXs (g:Gl) (A:Around) (F:Fm) (sts:List Stmt) (σ:AS) (P:Fl→AS→Prop):Prop:=J g A F F.fr FlR (execs sts F.env) σ P
def OP1 (g:Gl) (A:Around) (F:Fm) (t:Value→Sem Value) (p:PV) (σ:AS) (P:PV→AS→Prop):Prop :=
 ∀ s v,Sat g F σ s→VR s.heap σ.own p v→∀ (Q:Value→Shared→Prop) (E:Value→Shared→Prop),
  (∀ a b σ' s',P b σ'→Sat g F σ' s'→VR s'.heap σ'.own b a→Stp [] σ.own s σ'.own s'→Q a s')→wpAny (model g.prog g.w) A (t v) Q E s
def OP2 (g:Gl) (A:Around) (F:Fm) (t:Value→Value→Sem Value) (p q:PV) (σ:AS) (P:PV→AS→Prop):Prop :=
 ∀ s v u,Sat g F σ s→VR s.heap σ.own p v→VR s.heap σ.own q u→∀ (Q:Value→Shared→Prop) (E:Value→Shared→Prop),
  (∀ a b σ' s',P b σ'→Sat g F σ' s'→VR s'.heap σ'.own b a→Stp [] σ.own s σ'.own s'→Q a s')→wpAny (model g.prog g.w) A (t v u) Q E s
def CL (g:Gl) (A:Around) (F:Fm) (f:Value) (ps:List PV) (σ:AS) (P:PV→AS→Prop):Prop :=
 ∀ s vs,Sat g F σ s→VRs s.heap σ.own ps vs→∀ (Q:Value→Shared→Prop) (E:Value→Shared→Prop),
  (∀ a b σ' s',P b σ'→Sat g F σ' s'→VR s'.heap σ'.own b a→Stp [] σ.own s σ'.own s'→Q a s')→wpAny (model g.prog g.w) A (call f vs) Q E s
section
variable {g:Gl} {A:Around} {F:Fm} {σ:AS} {P:PV→AS→Prop} {s:Shared}
theorem Sat.toks (S:Sat g F σ s) (n:Nat):Sat g F σ { s with toks:=n }:=⟨S.old,S.lim,S.os,S.bare,S.nd,S.lo,S.zs,S.fr,S.ns,S.nin,S.loc,S.cs,S.cl⟩
theorem Stp.toks {fr own:List Addr} {n:Nat}:Stp fr own s own { s with toks:=n }:=⟨fun _ _ e _ _ _=>e,fun _ o e=>⟨o,e⟩,fun _ h=>.inl h,fun _ _ e=>e⟩
theorem J.mono {α β:Type} {fr:List Addr} {R:Heap→List Addr→β→α→Prop} {t:Sem α} {P P':β→AS→Prop} (x:J g A F fr R t σ P) (h:∀ b σ',P b σ'→P' b σ'):J g A F fr R t σ P' :=
 fun s S Q E k=>x s S Q E fun a b σ' s' p=>k a b σ' s' (h b σ' p)
theorem OldK.ext {h₀ h h':Heap} {a:Addr} (K:OldK h₀ h) (ha:h₀.objs.size≤a) (hs:Heap.ExtBut a h h'):OldK h₀ h':=by
 have ne:∀ b o,h₀.get? b=some o→b≠a:=fun b o e=>Nat.ne_of_lt (Nat.lt_of_lt_of_le (Heap.lt_size e) ha)
 refine ⟨fun b o e=>?_,fun b o e=>let ⟨o',ho'⟩:=K.there b o e; ⟨o',hs b _ (ne b o e) ho'⟩⟩
 rcases K.old b o e with x | ⟨t,hc,vs,more,hv,x⟩ | ⟨rfl,hc,⟨o',es,n,ho',r⟩,z⟩
 ·exact .inl (hs b _ (ne b o e) x)
 ·exact .inr (.inl ⟨t,hc,vs,more,hv,hs b _ (ne b o e) x⟩)
 ·exact .inr (.inr ⟨rfl,hc,⟨o',es,n,hs _ _ (ne _ o e) ho',r⟩,fun key=>by rw [OldK.staticOf_congr ((hs _ _ (ne _ o e) ho').trans ho'.symm) key]; exact z key⟩)
theorem OldT.ext {h₀ h h':Heap} {a:Addr} (K:OldT h₀ h) (ha:h₀.objs.size≤a) (hs:Heap.ExtBut a h h'):OldT h₀ h' :=
 ⟨OldK.ext K.k ha hs,fun P ps e t=>let ⟨ps',e',t'⟩:=K.tab P ps e t; ⟨ps',hs _ _ (Nat.ne_of_lt (Nat.lt_of_lt_of_le (Heap.lt_size e) ha)) e',t'⟩⟩
theorem NoLimit.ext {h h':Heap} {a:Addr} (n:h.NoLimit) (ha:cStatics≠a) (hs:Heap.ExtBut a h h'):h'.NoLimit:=by
 obtain ⟨mc,⟨o,es,ep,e,r⟩,h2⟩:=n
 exact ⟨mc,⟨o,es,ep,hs _ _ ha e,r⟩,h2⟩
theorem Named.ext {h h':Heap} {env:Env} {x:Str} {v:Value} (n:Named h env x v) (hk:∀ b o,h.get? b=some o→frameLike o→h'.get? b=some o):Named h' env x v:=by
 rcases n with ⟨a,m,⟨o,es,ep,e,d,r⟩,c⟩ | ⟨a,c,o',h3,h4,h5⟩
 ·exact .inl ⟨a,m,⟨o,es,ep,hk _ _ e (.inl ⟨es,ep,d⟩),d,r⟩,c⟩
 ·exact .inr ⟨a,c,o',h3,hk _ _ h4 (.inr ⟨_,h5⟩),h5⟩
theorem Sat.ext (S:Sat g F σ s) {h':Heap} {a:Addr} (ha:g.h₁.objs.size≤a) (hs:Heap.ExtBut a s.heap h') (hf:a∉F.fr) (ho:a∉σ.own)
  (hq:∀ o,s.heap.get? a=some o→¬ frameLike o∧∀ xs n,o.data≠.seq xs n):Sat g F σ { s with heap:=h' }:=by
 have kk:∀ b o',s.heap.get? b=some o'→frameLike o'→h'.get? b=some o':=fun b o' e fl=>hs b o' (fun q=>by subst q; exact (hq _ e).1 fl) e
 have kp:Kp s.heap h' σ.own σ.own:=fun b o' xs n e d no=>⟨hs b o' (fun q=>by subst q; exact (hq _ e).2 xs n d) e,no⟩
 have ko:∀ b o',s.heap.get? b=some o'→b∈σ.own→h'.get? b=some o':=fun b o' e hb=>hs b o' (fun q=>ho (q ▸ hb)) e
 have hcs:=S.cs
 refine ⟨OldT.ext S.old ha hs,NoLimit.ext S.lim (Nat.ne_of_lt (Nat.lt_of_lt_of_le hcs ha)) hs,S.os,S.bare,S.nd,S.lo,fun z hz=>?_,fun b hb=>?_,?_,S.nin,fun x p e=>?_,S.cs,S.cl.to fun b o e hc=>kk b o e (.inr hc)⟩
 ·have:=S.zs z hz
  have hin:∀ b∈z.2.addrs z.1,b∈σ.own:=fun b hb=>List.mem_flatMap.mpr ⟨z,hz,hb⟩
  obtain ⟨b,mo⟩:=z
  cases mo with
  | list l=>obtain ⟨items,n,h1,h2⟩:=this; exact ⟨items,n,ko _ _ h1 (hin b (by simp [MO.addrs])),h2.mono kp⟩
  | obj ob=>exact ⟨ko _ _ this.1 (hin b (by simp [MO.addrs])),this.2⟩
  | inst dx C att body =>
   obtain ⟨d,es,n,h1,h2,h3,h4⟩:=this
   refine ⟨d,es,n,ko _ _ h1 (hin b (by simp [MO.addrs])),?_,ko _ _ h3 (hin dx (by simp [MO.addrs])),h4.mono kp⟩
   cases body with
   | none=>exact h2
   | some l=>obtain ⟨items,n',e1,e2⟩:=h2; exact ⟨items,n',e1,e2.mono kp⟩
 ·obtain ⟨o',h1,h2⟩:=S.fr b hb; exact ⟨o',kk _ _ h1 h2,h2⟩
 ·obtain ⟨m,o,es,ep,e,d,r⟩:=S.ns; exact ⟨m,o,es,ep,kk _ _ e (.inl ⟨es,ep,d⟩),d,r⟩
 ·obtain ⟨v,h1,h2⟩:=S.loc x p e
  exact ⟨v,h1.ext kk,h2.mono kp⟩
theorem Sat.fr_lt (S:Sat g F σ s) {a:Addr} (ha:a∈F.fr):a < s.heap.objs.size:=by
 obtain ⟨o,e,_⟩:=S.fr a ha
 exact Heap.lt_size e
theorem Sat.own_lt (S:Sat g F σ s) {a:Addr} (ha:a∈σ.own):a < s.heap.objs.size:=by
 unfold AS.own at ha
 obtain ⟨z,hz,h⟩:=List.mem_flatMap.mp ha
 have:=S.zs z hz
 obtain ⟨b,mo⟩:=z
 cases mo with
 | list l =>
  obtain ⟨items,n,h1,h2⟩:=this
  simp [MO.addrs] at h; subst h; exact Heap.lt_size h1
 | obj ob=>simp [MO.addrs] at h; subst h; exact Heap.lt_size this.1
 | inst dx C att body =>
  obtain ⟨d,es,n,h1,h2,h3,h4⟩:=this
  simp [MO.addrs] at h
  rcases h with rfl | rfl
  ·exact Heap.lt_size h1
  ·exact Heap.lt_size h3
theorem get?_size (h:Heap):h.get? h.objs.size=none:=by
 cases e:h.get? h.objs.size with
 | none=>rfl
 | some o=>exact absurd (Heap.lt_size e) (Nat.lt_irrefl _)
theorem Sat.push (S:Sat g F σ s) (o:Obj):Sat g F σ { s with heap:=s.heap.push o }:=by
 have L:g.h₁.objs.size≤s.heap.objs.size:=by
  have:=S.lo _ (List.mem_append_left _ S.nin)
  exact Nat.le_of_lt (Nat.lt_of_le_of_lt this (S.fr_lt S.nin))
 refine S.ext (a:=s.heap.objs.size) L (fun b o' _ e=>Heap.get?_push_of_some o e) (fun h=>Nat.lt_irrefl _ (S.fr_lt h)) (fun h=>Nat.lt_irrefl _ (S.own_lt h)) fun o' e=>?_
 rw [get?_size] at e; cases e
theorem Stp.push {fr own:List Addr} (o:Obj):Stp fr own s own { s with heap:=s.heap.push o } :=
 ⟨fun b _ e _ _ _=>Heap.get?_push_of_some o e,fun b o' e=>⟨o',Heap.get?_push_of_some o e⟩,fun _ h=>.inl h,fun _ _ e=>e⟩
theorem Stp.off {fr own own':List Addr} {s₀:Shared} (x:Stp fr own s₀ own' s) {h':Heap} {a:Addr} (ha:s₀.heap.get? a=none) (hs:Heap.ExtBut a s.heap h'):Stp fr own s₀ own' { s with heap:=h' }:=by
 have ne:∀ b o,s₀.heap.get? b=some o→b≠a:=fun b o e q=>by subst q; rw [ha] at e; cases e
 exact ⟨fun b o e nf no hc=>hs b o (ne b o e) (x.keep b o e nf no hc),fun b o e=>let ⟨o',e'⟩:=x.there b o e; ⟨o',hs b o' (ne b o e) e'⟩,x.fresh,x.gens⟩
theorem VR.newTup (S:Sat g F σ s) {ps:List PV} {vs:List Value} (h:VRs s.heap σ.own ps vs):VR (s.heap.push (tupObj vs.toArray 0)) σ.own (.tup ps) (.ref s.heap.objs.size):=by
 refine .tup (fun hb=>Nat.lt_irrefl _ (S.own_lt hb)) (Heap.get?_push_size _ rfl) ?_
 exact h.mono fun b o' xs n e _ no=>⟨Heap.get?_push_of_some _ e,no⟩
theorem VR.newLst (S:Sat g F σ s) {ps:List PV} {vs:List Value} (h:VRs s.heap σ.own ps vs):VR (s.heap.push (lstObj vs.toArray 0)) σ.own (.lst ps) (.ref s.heap.objs.size):=by
 refine .lst (fun hb=>Nat.lt_irrefl _ (S.own_lt hb)) (Heap.get?_push_size _ rfl) ?_
 exact h.mono fun b o' xs n e _ no=>⟨Heap.get?_push_of_some _ e,no⟩
end
end Mine
end SM1
section SM2
open PySem PySem.Calls PyProof.Rows
namespace Mine
def setL (x:Str) (p:PV):List (Str × PV)→List (Str × PV)
 | []=>[(x,p)]
 | (y,q) :: r=>if y == x then (x,p) :: r else (y,q) :: setL x p r
theorem lookup_setL (x:Str) (p:PV) (y:Str):∀ l:List (Str × PV),(setL x p l).lookup y=if y == x then some p else l.lookup y
 | []=>by simp only [setL,List.lookup_cons,List.lookup_nil]; cases y == x <;> rfl
 | (z,q) :: r=>by
  unfold setL
  by_cases h:(z == x)=true
  ·rw [if_pos h]
   have:z=x:=eq_of_beq h
   subst this
   simp only [List.lookup_cons]
   cases y == z <;> rfl
  ·rw [if_neg h]
   simp only [List.lookup_cons]
   by_cases h2:(y == z)=true
   ·have:y=z:=eq_of_beq h2
    subst this
    have h':(y == x)=false:=by simpa using h
    simp [h']
   ·have h2':(y == z)=false:=by simpa using h2
    simp only [h2']
    exact lookup_setL x p y r
def AS.set (σ:AS) (x:Str) (p:PV):AS:={ σ with loc:=setL x p σ.loc }
def Gl.Glob (g:Gl) (x:Str) (v:Value):Prop:=∃ mg o,g.h₁.Ns mainGlobals mg∧g.h₁.get? mainGlobals=some o∧o.cls≠.none∧mg x=some v
def Gl.Blt (g:Gl) (x:Str) (v:Value):Prop:=∃ mg o mb ob,g.h₁.Ns mainGlobals mg∧g.h₁.get? mainGlobals=some o∧o.cls≠.none∧mg x=none∧g.h₁.Ns builtinsNs mb∧g.h₁.get? builtinsNs=some ob∧ob.cls≠.none∧mb x=some v
theorem Ns_old {h₀ h:Heap} {a:Addr} {m:Str→Option Value} {o:Obj} (K:OldT h₀ h) (n:h₀.Ns a m) (e:h₀.get? a=some o) (hc:o.cls≠.none):h.Ns a m:=by
 obtain ⟨o',es,ep,e',r⟩:=n
 rw [e] at e'; cases e'
 exact ⟨o,es,ep,K.get_of_cls e hc,r⟩
structure FnEnv (F:Fm):Prop where
 kind:F.env.scope.kind=.function
 gl:F.env.globals=mainGlobals
 bl:F.env.builtins=builtinsNs
section
variable {g:Gl} {A:Around} {F:Fm} {σ:AS} {P:PV→AS→Prop} {s:Shared}
theorem EV_local {x:Str} {pos:Pos} {p:PV} (hk:FnEnv F) (hl:σ.loc.lookup x=some p) (h:P p σ) (hd:(x == ("__debug__":Str))=false:=by decide) (hc:(x == Str.ofString "__classdict__")=false:=by decide) :
  EV g A F (.Name x pos) σ P:=by
 intro s S Q E k
 obtain ⟨v,hn,hv⟩:=S.loc x p hl
 rcases hn with ⟨e,m,n,hm⟩ | ⟨e,c,o,hcl,ho,hd'⟩
 ·exact wpAny_Name (wpAny_loadName_local hk.kind e n hm (k v p σ s h S hv .refl)) hd
 ·rcases e with e | e
  ·exact wpAny_Name (wpAny_loadName_cell hk.kind e hcl ⟨o,ho,hd'⟩ (k v p σ s h S hv .refl)) hd
  ·exact wpAny_Name (wpAny_loadName_free hk.kind e hcl ⟨o,ho,hd'⟩ (k v p σ s h S hv .refl) hc) hd
theorem EV_global {x:Str} {pos:Pos} {v:Value} (hk:FnEnv F) (hg:g.Glob x v) (h:P (.raw v) σ) (hx:F.env.kindOf x=some .globalImplicit:=by with_unfolding_all rfl) (hd:(x == ("__debug__":Str))=false:=by decide) :
  EV g A F (.Name x pos) σ P:=by
 intro s S Q E k
 obtain ⟨mg,o,n,e,hc,hv⟩:=hg
 exact Name_function_global hk.kind hx (loadGlobal_global (hk.gl ▸ Ns_old S.old n e hc) hv (k v _ σ s h S (.raw v) .refl)) hd
theorem EV_builtin {x:Str} {pos:Pos} {v:Value} (hk:FnEnv F) (hg:g.Blt x v) (h:P (.raw v) σ) (hx:F.env.kindOf x=some .globalImplicit:=by with_unfolding_all rfl) (hd:(x == ("__debug__":Str))=false:=by decide) :
  EV g A F (.Name x pos) σ P:=by
 intro s S Q E k
 obtain ⟨mg,o,mb,ob,n,e,hc,hm,nb,eb,hcb,hv⟩:=hg
 exact Name_function_global hk.kind hx (loadGlobal_builtin (hk.gl ▸ Ns_old S.old n e hc) hm (hk.bl ▸ Ns_old S.old nb eb hcb) hv (k v _ σ s h S (.raw v) .refl)) hd
theorem EV_int {i:Int} {n:Nat} {pos:Pos} (h:P (.int i) σ):EV g A F (.Constant (.int i) n pos) σ P :=
 fun _ S _ _ k=>wpAny_Constant_int (k _ _ σ _ h (S.toks _) (.int i _) .toks)
theorem EV_str {x:Str} {n:Nat} {pos:Pos} (h:P (.str x) σ):EV g A F (.Constant (.str x) n pos) σ P :=
 fun _ S _ _ k=>Constant_str (k _ _ σ _ h (S.toks _) (.str x _) .toks)
theorem EV_none {n:Nat} {pos:Pos} (h:P (.raw .none) σ):EV g A F (.Constant .none n pos) σ P :=
 fun s S _ _ k=>wpAny_pure (k _ _ σ s h S (.raw _) .refl)
theorem EV_bool {b:Bool} {n:Nat} {pos:Pos} (h:P (.raw (.bool b)) σ):EV g A F (.Constant (.bool b) n pos) σ P :=
 fun s S _ _ k=>wpAny_pure (k _ _ σ s h S (.raw _) .refl)
theorem EV_bytes {b:List UInt8} {n:Nat} {pos:Pos} (h:P (.byt b.toArray) σ):EV g A F (.Constant (.bytes b) n pos) σ P :=
 fun s S _ _ k _ _ _=>k _ _ σ { s with toks:=s.toks + 1 } h (S.toks _) (.byt _ _) .toks
theorem EV_BinOp {l r:Expr} {op:Operator} {pos:Pos} (h:EV g A F l σ fun p σ₁=>EV g A F r σ₁ fun q σ₂=>OP2 g A F (binaryOp op) p q σ₂ P):EV g A F (.BinOp l op r pos) σ P:=by
 intro s S Q E k
 refine wpAny_BinOp (h s S _ E fun v p σ₁ s₁ h₁ S₁ hv st₁=>?_)
 refine h₁ s₁ S₁ _ E fun u q σ₂ s₂ h₂ S₂ hu st₂=>?_
 exact h₂ s₂ v u S₂ (hv.mono (S₁.kp st₂)) hu _ E fun r p₃ σ₃ s₃ h₃ S₃ hr st₃=>k r p₃ σ₃ s₃ h₃ S₃ hr (st₁.trans (st₂.trans st₃))
theorem EV_Compare {l r:Expr} {op:CmpOp} {pos:Pos} (h:EV g A F l σ fun p σ₁=>EV g A F r σ₁ fun q σ₂=>OP2 g A F (compareOp op) p q σ₂ P) (hm:behindInMarks op r=false:=by with_unfolding_all rfl):EV g A F (.Compare l [op] [r] pos) σ P:=by
 intro s S Q E k
 refine wpAny_Compare1 (h s S _ E fun v p σ₁ s₁ h₁ S₁ hv st₁=>?_) hm
 refine h₁ s₁ S₁ _ E fun u q σ₂ s₂ h₂ S₂ hu st₂=>?_
 exact h₂ s₂ v u S₂ (hv.mono (S₁.kp st₂)) hu _ E fun r p₃ σ₃ s₃ h₃ S₃ hr st₃=>k r p₃ σ₃ s₃ h₃ S₃ hr (st₁.trans (st₂.trans st₃))
def TT (g:Gl) (A:Around) (F:Fm) (p:PV) (σ:AS) (P:Bool→AS→Prop):Prop :=
 ∀ s v,Sat g F σ s→VR s.heap σ.own p v→∀ (Q:Bool→Shared→Prop) (E:Value→Shared→Prop),
  (∀ b σ' s',P b σ'→Sat g F σ' s'→Stp [] σ.own s σ'.own s'→Q b s')→wpAny (model g.prog g.w) A (truthy v) Q E s
theorem TR_Compare {l r:Expr} {op:CmpOp} {pos:Pos} {P:Bool→AS→Prop} (h:EV g A F l σ fun p σ₁=>EV g A F r σ₁ fun q σ₂=>OP2 g A F (compareOp op) p q σ₂ fun c σ₃=>TT g A F c σ₃ P) (hm:behindInMarks op r=false:=by with_unfolding_all rfl):TR g A F (.Compare l [op] [r] pos) σ P:=by
 intro s S Q E k
 refine wpAny_isTrue_Compare1 (h s S _ E fun v p σ₁ s₁ h₁ S₁ hv st₁=>?_) hm
 refine h₁ s₁ S₁ _ E fun u q σ₂ s₂ h₂ S₂ hu st₂=>?_
 refine h₂ s₂ v u S₂ (hv.mono (S₁.kp st₂)) hu _ E fun r p₃ σ₃ s₃ h₃ S₃ hr st₃=>?_
 exact h₃ s₃ r S₃ hr _ E fun b σ₄ s₄ h₄ S₄ st₄=>k b b σ₄ s₄ h₄ S₄ rfl (st₁.trans (st₂.trans (st₃.trans st₄)))
theorem TR_plain {e:Expr} {P:Bool→AS→Prop} (h:EV g A F e σ fun p σ₁=>TT g A F p σ₁ P)
  (he:isTrue e F.env (eval e F.env)=(do let v ← eval e F.env; standAt e.pos; holding [v] (truthy v)):=by with_unfolding_all rfl):TR g A F e σ P:=by
 intro s S Q E k
 refine isTrue_plain (h s S _ E fun v p σ₁ s₁ h₁ S₁ hv st₁=>?_) he
 exact h₁ s₁ v S₁ hv _ E fun b σ₂ s₂ h₂ S₂ st₂=>k b b σ₂ s₂ h₂ S₂ rfl (st₁.trans st₂)
theorem TR_Not {x:Expr} {pos:Pos} {P:Bool→AS→Prop} (h:TR g A F x σ fun b σ₁=>P (!b) σ₁):TR g A F (.UnaryOp .Not x pos) σ P:=by
 intro s S Q E k
 exact wpAny_isTrue_Not (h s S _ E fun b b' σ₁ s₁ h₁ S₁ hb st₁=>k _ _ σ₁ s₁ h₁ S₁ (by show (!b)=(!b'); rw [show b=b' from hb]) st₁)
def TRs (g:Gl) (A:Around) (F:Fm) (op:BoolOp) (es:List Expr) (σ:AS) (P:Bool→AS→Prop):Prop:=J g A F [] EQ (allTrue op es F.env) σ P
theorem TR_BoolOp {op:BoolOp} {es:List Expr} {pos:Pos} {P:Bool→AS→Prop} (h:TRs g A F op es σ P):TR g A F (.BoolOp op es pos) σ P:=h
theorem TRs_nil {op:BoolOp} {P:Bool→AS→Prop} (h:P (op == .And) σ):TRs g A F op [] σ P:=fun s S _ _ k=>wpAny_pure (k _ _ σ s h S rfl .refl)
theorem TRs_cons {op:BoolOp} {e:Expr} {es:List Expr} {P:Bool→AS→Prop} (h:TR g A F e σ fun b σ₁=>match op,b with | .And,false=>P false σ₁ | .Or,true=>P true σ₁ | _,_=>TRs g A F op es σ₁ P):TRs g A F op (e :: es) σ P:=by
 intro s S Q E k
 show wpAny _ A (isTrue e F.env (eval e F.env)>>=fun b=>match op,b with | .And,false=>pure false | .Or,true=>pure true | _,_=>allTrue op es F.env) Q E s
 refine wpAny_bind (h s S _ E fun b b' σ₁ s₁ h₁ S₁ hb st₁=>?_)
 cases hb
 cases op <;> cases b <;> first
  | exact wpAny_pure (k _ _ σ₁ s₁ h₁ S₁ rfl st₁)
  | exact h₁ s₁ S₁ Q E fun a c σ₂ s₂ h₂ S₂ hc st₂=>k a c σ₂ s₂ h₂ S₂ hc (st₁.trans st₂)
theorem TT_bool {b:Bool} {P:Bool→AS→Prop} (h:P b σ):TT g A F (.raw (.bool b)) σ P:=fun s v S hv Q E k=>by
 cases hv; exact wpAny_truthy_bool (k b σ s h S .refl)
theorem EV_IfExp {t b o:Expr} {pos:Pos} (h:TR g A F t σ fun c σ₁=>if c=true then EV g A F b σ₁ P else EV g A F o σ₁ P):EV g A F (.IfExp t b o pos) σ P:=by
 intro s S Q E k
 refine wpAny_IfExp (h s S _ E fun c c' σ₁ s₁ h₁ S₁ hc st₁=>?_)
 cases hc
 cases c with
 | true=>exact h₁ s₁ S₁ Q E fun a p σ₂ s₂ h₂ S₂ hr st₂=>k a p σ₂ s₂ h₂ S₂ hr (st₁.trans st₂)
 | false=>exact h₁ s₁ S₁ Q E fun a p σ₂ s₂ h₂ S₂ hr st₂=>k a p σ₂ s₂ h₂ S₂ hr (st₁.trans st₂)
theorem EV_Unary {x:Expr} {op:UnaryOp} {pos:Pos} (h:EV g A F x σ fun p σ₁=>OP1 g A F (unaryOp op) p σ₁ P):EV g A F (.UnaryOp op x pos) σ P:=by
 intro s S Q E k
 refine wpAny_UnaryOp (h s S _ E fun v p σ₁ s₁ h₁ S₁ hv st₁=>?_)
 exact h₁ s₁ v S₁ hv _ E fun a q σ₂ s₂ h₂ S₂ hr st₂=>k a q σ₂ s₂ h₂ S₂ hr (st₁.trans st₂)
def EVs (g:Gl) (A:Around) (F:Fm) (es:List Expr) (σ:AS) (P:List PV→AS→Prop):Prop:=∀ pos,J g A F [] VRs (spliced (backTo pos (starEach es F.env))) σ P
theorem EVs_nil {P:List PV→AS→Prop} (h:P [] σ):EVs g A F [] σ P:=fun _ s S _ _ k=>spliced_nil (k _ _ σ s h S .nil .refl)
theorem EVs_cons {e:Expr} {es:List Expr} {P:List PV→AS→Prop} (h:EV g A F e σ fun p σ₁=>EVs g A F es σ₁ fun ps σ₂=>P (p :: ps) σ₂)
  (he:starEach (e :: es) F.env=(false,eval e F.env) :: starEach es F.env:=by with_unfolding_all rfl):EVs g A F (e :: es) σ P:=by
 intro pos s S Q E k
 refine args_cons ?_ he
 refine h s S _ E fun v p σ₁ s₁ h₁ S₁ hv st₁=>?_
 refine h₁ pos s₁ S₁ _ E fun vs ps σ₂ s₂ h₂ S₂ hvs st₂=>?_
 exact k _ _ σ₂ s₂ h₂ S₂ (.cons (hv.mono (S₁.kp st₂)) hvs) (st₁.trans st₂)
theorem EV_Tuple {es:List Expr} {n:Nat} {pos:Pos} (h:EVs g A F es σ fun ps σ₁=>ps.length≤1000∧P (.tup ps) σ₁):EV g A F (.Tuple es n pos) σ P:=by
 intro s S Q E k
 refine Tuple_ (h pos s S _ E fun vs ps σ₁ s₁ h₁ S₁ hvs st₁=>?_)
 exact wpAny_newTuple (k _ _ σ₁ _ h₁.2 (S₁.push _) (VR.newTup S₁ hvs) (st₁.trans (.push _))) (by have:=hvs.length; have:=h₁.1; unfold sizeLine; omega)
theorem EV_List {es:List Expr} {pos:Pos} (h:EVs g A F es σ fun ps σ₁=>ps.length≤1000∧P (.lst ps) σ₁):EV g A F (.List es pos) σ P:=by
 intro s S Q E k
 refine List_ (h pos s S _ E fun vs ps σ₁ s₁ h₁ S₁ hvs st₁=>?_)
 exact wpAny_newList (k _ _ σ₁ _ h₁.2 (S₁.push _) (VR.newLst S₁ hvs) (st₁.trans (.push _))) (by have:=hvs.length; have:=h₁.1; unfold sizeLine; omega)
end
section
variable {g:Gl} {A:Around} {F:Fm} {σ:AS} {P:PV→AS→Prop} {s:Shared}
theorem add_ii {a b:Int} (h:P (.int (a + b)) σ):OP2 g A F (binaryOp .Add) (.int a) (.int b) σ P:=fun s v u S hv hu Q E k=>by
 cases hv; cases hu; exact add_int (k _ _ σ _ h (S.toks _) (.int _ _) .toks)
theorem sub_ii {a b:Int} (h:P (.int (a - b)) σ):OP2 g A F (binaryOp .Sub) (.int a) (.int b) σ P:=fun s v u S hv hu Q E k=>by
 cases hv; cases hu; exact sub_int (k _ _ σ _ h (S.toks _) (.int _ _) .toks)
theorem mul_ii {a b:Int} (hs:IntMulOk a b) (h:P (.int (a * b)) σ):OP2 g A F (binaryOp .Mult) (.int a) (.int b) σ P:=fun s v u S hv hu Q E k=>by
 cases hv; cases hu; exact mul_int (k _ _ σ _ h (S.toks _) (.int _ _) .toks) hs
theorem mod_ii {a b:Int} (hb:b≠0) (h:P (.int (a.fmod b)) σ):OP2 g A F (binaryOp .Mod) (.int a) (.int b) σ P:=fun s v u S hv hu Q E k=>by
 cases hv; cases hu; exact mod_int' hb (k _ _ σ _ h (S.toks _) (.int _ _) .toks)
theorem div_ii {a b:Int} (hb:b≠0) (hp:Builtin.divisionGoesByPylong a b=false) (h:P (.int (a.fdiv b)) σ):OP2 g A F (binaryOp .FloorDiv) (.int a) (.int b) σ P:=fun s v u S hv hu Q E k=>by
 cases hv; cases hu; exact floordiv_int hb (k _ _ σ _ h (S.toks _) (.int _ _) .toks) (.inl hp)
theorem shl_ii {a n:Int} (h0:0≤n) (h1:n≤1000000) (h2:a.natAbs < 2 ^ 64) (h:P (.int (a * 2 ^ n.toNat)) σ):OP2 g A F (binaryOp .LShift) (.int a) (.int n) σ P:=fun s v u S hv hu Q E k=>by
 cases hv; cases hu; exact lshift_int_small h0 h1 h2 (k _ _ σ _ h (S.toks _) (.int _ _) .toks)
theorem shr_ii {a n:Int} (h0:0≤n) (h:P (.int (a.fdiv (2 ^ n.toNat))) σ):OP2 g A F (binaryOp .RShift) (.int a) (.int n) σ P:=fun s v u S hv hu Q E k=>by
 cases hv; cases hu; exact rshift_int h0 (k _ _ σ _ h (S.toks _) (.int _ _) .toks)
theorem and_ii {a b:Int} (h:P (.int (Builtin.bitAnd a b)) σ):OP2 g A F (binaryOp .BitAnd) (.int a) (.int b) σ P:=fun s v u S hv hu Q E k=>by
 cases hv; cases hu; exact and_int (k _ _ σ _ h (S.toks _) (.int _ _) .toks)
theorem or_ii {a b:Int} (h:P (.int (Builtin.bitOr a b)) σ):OP2 g A F (binaryOp .BitOr) (.int a) (.int b) σ P:=fun s v u S hv hu Q E k=>by
 cases hv; cases hu; exact or_int (k _ _ σ _ h (S.toks _) (.int _ _) .toks)
theorem pow_ii {a n:Int} (h0:0≤n) (h1:(Builtin.Int.intBits a:Int) * n≤2 ^ 27) (h:P (.int (a ^ n.toNat)) σ):OP2 g A F (binaryOp .Pow) (.int a) (.int n) σ P:=fun s v u S hv hu Q E k=>by
 cases hv; cases hu; exact pow_int h0 h1 (k _ _ σ _ h (S.toks _) (.int _ _) .toks)
theorem neg_i {a:Int} (h:P (.int (-a)) σ):OP1 g A F (unaryOp .USub) (.int a) σ P:=fun s v S hv Q E k=>by
 cases hv; exact neg_int (k _ _ σ _ h (S.toks _) (.int _ _) .toks)
theorem add_ss {x y:Str} (hs:x.length + y.length≤sizeLine) (h:P (.str (x++y)) σ):OP2 g A F (binaryOp .Add) (.str x) (.str y) σ P:=fun s v u S hv hu Q E k=>by
 cases hv; cases hu; exact add_str (fun t' tk=>k _ _ σ _ h (S.toks _) (.str _ _) .toks) hs
theorem mul_si {x:Str} {n:Int} (hs:MulOk x n) (h:P (.str (Txt.mul x n)) σ):OP2 g A F (binaryOp .Mult) (.str x) (.int n) σ P:=fun s v u S hv hu Q E k=>by
 cases hv; cases hu; exact SB.mul hs (fun t' tk=>k _ _ σ _ h (S.toks _) (.str _ _) .toks)
theorem c_eq_ii {a b:Int} (h:P (.raw (.bool (a == b))) σ):OP2 g A F (compareOp .Eq) (.int a) (.int b) σ P:=fun s v u S hv hu Q E k=>by
 cases hv; cases hu; exact eq_int (k _ _ σ s h S (.raw _) .refl)
theorem c_ne_ii {a b:Int} (h:P (.raw (.bool (a != b))) σ):OP2 g A F (compareOp .NotEq) (.int a) (.int b) σ P:=fun s v u S hv hu Q E k=>by
 cases hv; cases hu; exact ne_int (k _ _ σ s h S (.raw _) .refl)
theorem c_lt_ii {a b:Int} (h:P (.raw (.bool (decide (a < b)))) σ):OP2 g A F (compareOp .Lt) (.int a) (.int b) σ P:=fun s v u S hv hu Q E k=>by
 cases hv; cases hu; exact lt_int (k _ _ σ s h S (.raw _) .refl)
theorem c_gt_ii {a b:Int} (h:P (.raw (.bool (decide (b < a)))) σ):OP2 g A F (compareOp .Gt) (.int a) (.int b) σ P:=fun s v u S hv hu Q E k=>by
 cases hv; cases hu; exact gt_int (k _ _ σ s h S (.raw _) .refl)
theorem c_ge_ii {a b:Int} (h:P (.raw (.bool (decide (b≤a)))) σ):OP2 g A F (compareOp .GtE) (.int a) (.int b) σ P:=fun s v u S hv hu Q E k=>by
 cases hv; cases hu; exact ge_int (k _ _ σ s h S (.raw _) .refl)
theorem c_eq_ss {x y:Str} (h:P (.raw (.bool (x == y))) σ):OP2 g A F (compareOp .Eq) (.str x) (.str y) σ P:=fun s v u S hv hu Q E k=>by
 cases hv; cases hu; exact eq_str (k _ _ σ s h S (.raw _) .refl)
theorem c_ne_ss {x y:Str} (h:P (.raw (.bool (x != y))) σ):OP2 g A F (compareOp .NotEq) (.str x) (.str y) σ P:=fun s v u S hv hu Q E k=>by
 cases hv; cases hu; exact ne_str (k _ _ σ s h S (.raw _) .refl)
theorem c_in_ss {x y:Str} (h:P (.raw (.bool (!(Builtin.Str.occurrences x y 0 x.length 1).isEmpty))) σ):OP2 g A F (compareOp .In) (.str y) (.str x) σ P:=fun s v u S hv hu Q E k=>by
 cases hv; cases hu; exact in_str (k _ _ σ s h S (.raw _) .refl)
end
end Mine
end SM2
section SM3
open PySem PySem.Calls PyProof.Rows
namespace Mine
theorem Ns.uniq {h:Heap} {a:Addr} {m m':Str→Option Value} (x:h.Ns a m) (y:h.Ns a m'):m=m':=by
 obtain ⟨o,es,ep,e,d,_,f⟩:=x
 obtain ⟨o',es',ep',e',d',_,f'⟩:=y
 rw [e] at e'; cases e'
 rw [d] at d'; cases d'
 funext n
 rw [← f,← f']
section
variable {g:Gl} {A:Around} {F:Fm} {σ:AS} {s:Shared}
theorem Sat.frame (S:Sat g F σ s) {h':Heap} {a:Addr} (ha:a∈F.fr) (hs:Heap.SameBut a s.heap h') (hf:∃ o,h'.get? a=some o∧frameLike o) (σ':AS) (hz:σ'.zone=σ.zone) (n:Nat)
  (hns:∃ m,h'.Ns F.env.locals m) (hcl:∀ o,s.heap.get? a=some o→isCellO o→∃ o',h'.get? a=some o'∧isCellO o')
  (hloc:Kp s.heap h' σ.own σ.own→∀ x p,σ'.loc.lookup x=some p→∃ v,Named h' F.env x v∧VR h' σ.own p v) :
  Sat g F σ' { s with heap:=h',toks:=n }∧Stp F.fr σ.own s σ'.own { s with heap:=h',toks:=n }:=by
 have hlo:g.h₁.objs.size≤a:=S.lo a (List.mem_append_left _ ha)
 have hno:a∉σ.own:=fun h=>by
  have:=(List.nodup_append.mp S.nd).2.2 a ha a h
  exact this rfl
 have hq:∀ o,s.heap.get? a=some o→∀ xs n,o.data≠.seq xs n:=fun o e xs n=>by
  obtain ⟨o',e',fl⟩:=S.fr a ha
  rw [e] at e'; cases e'
  exact fl.notSeq xs n
 have kp:Kp s.heap h' σ.own σ.own:=fun b o' xs n e d no=>⟨hs.extBut b o' (fun q=>by subst q; exact hq _ e xs n d) e,no⟩
 have ko:∀ b o',s.heap.get? b=some o'→b∈σ.own→h'.get? b=some o':=fun b o' e hb=>hs.extBut b o' (fun q=>hno (q ▸ hb)) e
 have hown:σ'.own=σ.own:=by unfold AS.own; rw [hz]
 refine ⟨⟨OldT.ext S.old hlo hs.extBut,NoLimit.ext S.lim (Nat.ne_of_lt (Nat.lt_of_lt_of_le S.cs hlo)) hs.extBut,S.os,S.bare,hown ▸ S.nd,hown ▸ S.lo,fun z hz'=>?_,fun b hb=>?_,hns,S.nin,fun x p e=>?_,S.cs,fun x c hx hc hf hl=>by
  obtain ⟨o,e,ho⟩:=S.cl x c hx hc hf hl
  by_cases hca:c=a
  ·subst hca; exact hcl o e ho
  ·exact ⟨o,hs.extBut c o hca e,ho⟩⟩,?_⟩
 ·rw [hz] at hz'
  have:=S.zs z hz'
  have hin:∀ b∈z.2.addrs z.1,b∈σ.own:=fun b hb=>List.mem_flatMap.mpr ⟨z,hz',hb⟩
  rw [hown]
  obtain ⟨b,mo⟩:=z
  cases mo with
  | list l=>obtain ⟨items,n,h1,h2⟩:=this; exact ⟨items,n,ko _ _ h1 (hin b (by simp [MO.addrs])),h2.mono kp⟩
  | obj ob=>exact ⟨ko _ _ this.1 (hin b (by simp [MO.addrs])),this.2⟩
  | inst dx C att body =>
   obtain ⟨d,es,n,h1,h2,h3,h4⟩:=this
   refine ⟨d,es,n,ko _ _ h1 (hin b (by simp [MO.addrs])),?_,ko _ _ h3 (hin dx (by simp [MO.addrs])),h4.mono kp⟩
   cases body with
   | none=>exact h2
   | some l=>obtain ⟨items,n',e1,e2⟩:=h2; exact ⟨items,n',e1,e2.mono kp⟩
 ·by_cases hb':b=a
  ·subst hb'; exact hf
  ·obtain ⟨o',h1,h2⟩:=S.fr b hb; exact ⟨o',hs.extBut b o' hb' h1,h2⟩
 ·rw [hown]; exact hloc kp x p e
 ·refine ⟨fun b o e nf no hc=>hs.extBut b o (fun q=>nf (q ▸ ha)) e,fun b o e=>?_,fun b hb=>.inl (hown ▸ hb),fun _ _ e=>e⟩
  by_cases hb':b=a
  ·subst hb'; obtain ⟨o',h1,_⟩:=hf; exact ⟨o',h1⟩
  ·exact ⟨o,hs.extBut b o hb' e⟩
theorem store_local {x:Str} {v:Value} {p:PV} {Q:Unit→Shared→Prop} {E:Value→Shared→Prop} (hk:FnEnv F) (hx:F.env.kindOf x=some .local) (S:Sat g F σ s) (hv:VR s.heap σ.own p v)
  (h:∀ s',Sat g F (σ.set x p) s'→Stp F.fr σ.own s (σ.set x p).own s'→Q () s'):wpAny (model g.prog g.w) A (storeName F.env x v) Q E s:=by
 obtain ⟨m,hm⟩:=S.ns
 refine wpAny_storeName_local hx hm (fun h' hn hs=>?_) (by rw [hk.kind]; rfl)
 have hfl:∃ o,h'.get? F.env.locals=some o∧frameLike o:=by obtain ⟨o,es,ep,e,d,_⟩:=hn; exact ⟨o,e,.inl ⟨es,ep,d⟩⟩
 obtain ⟨S',st⟩:=S.frame (h':=h') S.nin hs hfl (σ.set x p) rfl (s.toks + 1) ⟨_,hn⟩ (fun o e ⟨v,hv⟩=>by obtain ⟨o',es,ep,e',d,_⟩:=hm; rw [e] at e'; cases e'; rw [hv] at d; cases d) (fun kp y q e=>by
  rw [show (σ.set x p).loc=setL x p σ.loc from rfl,lookup_setL] at e
  by_cases hy:(y == x)=true
  ·rw [if_pos hy] at e
   cases e
   have:y=x:=eq_of_beq hy
   subst this
   exact ⟨v,.inl ⟨hx,_,hn,if_pos rfl⟩,hv.mono kp⟩
  ·rw [if_neg hy] at e
   obtain ⟨u,hu,hr⟩:=S.loc y q e
   refine ⟨u,?_,hr.mono kp⟩
   rcases hu with ⟨e1,m',n',e2⟩ | ⟨e1,c,o,e2,e3,e4⟩
   ·refine .inl ⟨e1,_,hn,?_⟩
    rw [if_neg (fun q=>hy (by rw [q]; exact beq_self_eq_true _)),Ns.uniq hm n']; exact e2
   ·refine .inr ⟨e1,c,o,e2,hs.extBut c o (fun q=>?_) e3,e4⟩
    subst q
    obtain ⟨o',es,ep,e',d,_⟩:=hm
    rw [e3] at e'; cases e'
    rw [e4] at d; cases d)
 exact h _ S' st
theorem store_cell {x:Str} {v:Value} {p:PV} {Q:Unit→Shared→Prop} {E:Value→Shared→Prop} {c:Addr} {v₀:Option Value} (hk:FnEnv F) (hx:F.env.kindOf x=some .cell) (hc:F.env.cells.lookup x=some c) (hcf:c∈F.fr)
  (hinj:∀ y c',F.env.cells.lookup y=some c'→y≠x→c'≠c) (S:Sat g F σ s) (hcell:s.heap.IsCell c v₀) (hv:VR s.heap σ.own p v)
  (h:∀ s',Sat g F (σ.set x p) s'→Stp F.fr σ.own s (σ.set x p).own s'→Q () s'):wpAny (model g.prog g.w) A (storeName F.env x v) Q E s:=by
 refine wpAny_storeName_cell hk.kind hx hc hcell fun h' hn hs=>?_
 obtain ⟨o₀,e₀,d₀⟩:=hcell
 obtain ⟨o₁,e₁,d₁⟩:=hn
 have hLc:F.env.locals≠c:=fun q=>by
  obtain ⟨m,o',es,ep,e',d,_⟩:=S.ns
  rw [q,e₀] at e'; cases e'
  rw [d₀] at d; cases d
 have hns:∀ m,s.heap.Ns F.env.locals m→h'.Ns F.env.locals m:=fun m hm=>hm.sameBut hs hLc
 obtain ⟨S',st⟩:=S.frame (h':=h') hcf hs ⟨o₁,e₁,.inr ⟨_,d₁⟩⟩ (σ.set x p) rfl s.toks (let ⟨m,hm⟩:=S.ns; ⟨m,hns m hm⟩) (fun _ _ _=>⟨o₁,e₁,_,d₁⟩) (fun kp y q e=>by
  rw [show (σ.set x p).loc=setL x p σ.loc from rfl,lookup_setL] at e
  by_cases hy:(y == x)=true
  ·rw [if_pos hy] at e
   cases e
   have:y=x:=eq_of_beq hy
   subst this
   exact ⟨v,.inr ⟨.inl hx,c,o₁,hc,e₁,d₁⟩,hv.mono kp⟩
  ·rw [if_neg hy] at e
   have hne:y≠x:=fun q=>hy (by rw [q]; exact beq_self_eq_true _)
   obtain ⟨u,hu,hr⟩:=S.loc y q e
   refine ⟨u,?_,hr.mono kp⟩
   rcases hu with ⟨e1,m',n',e2⟩ | ⟨e1,c',o,e2,e3,e4⟩
   ·exact .inl ⟨e1,m',hns m' n',e2⟩
   ·exact .inr ⟨e1,c',o,e2,hs.extBut c' o (hinj y c' e2 hne) e3,e4⟩)
 exact h _ S' st
theorem EXs_nil {P:Fl→AS→Prop} (h:P .next σ):EXs g A F [] σ P:=fun s S _ _ k=>wpAny_execs_nil (k _ _ σ s h S .next .refl)
theorem EXs_cons {st:Stmt} {rest:List Stmt} {P:Fl→AS→Prop} (h:EX g A F st σ fun fl σ₁=>match fl with | .next=>EXs g A F rest σ₁ P | fl=>P fl σ₁):EXs g A F (st :: rest) σ P:=by
 intro s S Q E k
 refine wpAny_execs_cons (h s S _ E fun f fl σ₁ s₁ h₁ S₁ hr st₁=>?_)
 cases hr with
 | next=>exact h₁ s₁ S₁ Q E fun f fl σ₂ s₂ h₂ S₂ hr st₂=>k f fl σ₂ s₂ h₂ S₂ hr (st₁.trans st₂)
 | brk=>exact k _ _ σ₁ s₁ h₁ S₁ .brk st₁
 | cont=>exact k _ _ σ₁ s₁ h₁ S₁ .cont st₁
 | ret hv=>exact k _ _ σ₁ s₁ h₁ S₁ (.ret hv) st₁
theorem EX_Assign_Name {x:Str} {pos' pos:Pos} {value:Expr} {P:Fl→AS→Prop} (hk:FnEnv F) (h:EV g A F value σ fun p σ₁=>P .next (σ₁.set x p)) (hx:F.env.kindOf x=some .local:=by with_unfolding_all rfl)
  (hs:swapsWith value (some (.Name x pos')) pos.line F.env=pure false:=by with_unfolding_all rfl):EX g A F (.Assign [.Name x pos'] value pos) σ P:=by
 intro s S Q E k
 refine wpAny_Assign_Name (h s S _ E fun v p σ₁ s₁ h₁ S₁ hv st₁=>?_) hs
 exact store_local hk hx S₁ hv fun s₂ S₂ st₂=>k _ _ _ s₂ h₁ S₂ .next (st₁.up.trans st₂)
theorem EX_If {test:Expr} {body orelse:List Stmt} {pos:Pos} {P:Fl→AS→Prop} (h:TR g A F test σ fun b σ₁=>if b=true then EXs g A F body σ₁ P else EXs g A F orelse σ₁ P):EX g A F (.If test body orelse pos) σ P:=by
 intro s S Q E k
 refine wpAny_If (h s S _ E fun b b' σ₁ s₁ h₁ S₁ hb st₁=>?_)
 cases hb
 cases b with
 | true=>exact h₁ s₁ S₁ Q E fun f fl σ₂ s₂ h₂ S₂ hr st₂=>k f fl σ₂ s₂ h₂ S₂ hr (st₁.up.trans st₂)
 | false=>exact h₁ s₁ S₁ Q E fun f fl σ₂ s₂ h₂ S₂ hr st₂=>k f fl σ₂ s₂ h₂ S₂ hr (st₁.up.trans st₂)
theorem EX_Return {e:Expr} {pos:Pos} {P:Fl→AS→Prop} (h:EV g A F e σ fun p σ₁=>P (.ret p) σ₁):EX g A F (.Return (some e) pos) σ P:=by
 intro s S Q E k
 exact wpAny_Return_some (h s S _ E fun v p σ₁ s₁ h₁ S₁ hv st₁=>k _ _ σ₁ s₁ h₁ S₁ (.ret hv) st₁.up)
theorem EX_Return_none {pos:Pos} {P:Fl→AS→Prop} (h:P (.ret (.raw .none)) σ):EX g A F (.Return none pos) σ P:=by
 intro s S Q E k
 exact wpAny_Return_none (k _ _ σ s h S (.ret (.raw _)) .refl)
theorem EX_Break {pos:Pos} {P:Fl→AS→Prop} (h:P .brk σ):EX g A F (.Break pos) σ P:=fun s S _ _ k=>wpAny_Break (k _ _ σ s h S .brk .refl)
theorem EX_Continue {pos:Pos} {P:Fl→AS→Prop} (h:P .cont σ):EX g A F (.Continue pos) σ P:=fun s S _ _ k=>wpAny_Continue (k _ _ σ s h S .cont .refl)
theorem EX_Assert {test:Expr} {msg:Option Expr} {pos:Pos} {P:Fl→AS→Prop} (h:TR g A F test σ fun b σ₁=>b=true∧P .next σ₁):EX g A F (.Assert test msg pos) σ P:=by
 intro s S Q E k
 refine wpAny_Assert_holds (h s S _ E fun b b' σ₁ s₁ h₁ S₁ hb st₁=>?_)
 cases hb
 exact ⟨h₁.1,k _ _ σ₁ s₁ h₁.2 S₁ .next st₁.up⟩
def PV.flat:PV→Prop
 | .raw (.ref _)=>False
 | .tup _ | .lst _=>False
 | _=>True
theorem EX_Expr {e:Expr} {pos:Pos} {P:Fl→AS→Prop} (h:EV g A F e σ fun p σ₁=>p.flat∧P .next σ₁) (hi:interactive F.env=false:=by with_unfolding_all rfl) (hs:swapsWith e none pos.line F.env=pure false:=by with_unfolding_all rfl):EX g A F (.Expr e pos) σ P:=by
 intro s S Q E k
 refine wpAny_Expr (h s S _ E fun v p σ₁ s₁ h₁ S₁ hv st₁=>?_) hi hs
 obtain ⟨hf,h₁⟩:=h₁
 have:=k .next .next σ₁ s₁ h₁ S₁ .next st₁.up
 cases hv with
 | raw v=>cases v <;> first | exact this | exact hf.elim
 | tup=>exact hf.elim
 | lst=>exact hf.elim
 | _=>exact this
theorem EX_Aug_Name {x:Str} {pos' pos:Pos} {op:Operator} {value:Expr} {p:PV} {P:Fl→AS→Prop} (hk:FnEnv F) (hl:σ.loc.lookup x=some p) (h:EV g A F value σ fun q σ₁=>OP2 g A F (inplaceOp op) p q σ₁ fun r σ₂=>P .next (σ₂.set x r))
  (hx:F.env.kindOf x=some .local:=by with_unfolding_all rfl):EX g A F (.AugAssign (.Name x pos') op value pos) σ P:=by
 intro s S Q E k
 obtain ⟨v,hn,hv⟩:=S.loc x p hl
 rcases hn with ⟨e,m,n,hm⟩ | ⟨e,_⟩
 ·refine wpAny_AugAssign_Name (wpAny_loadName_local hk.kind hx n hm ?_)
  refine h s S _ E fun u q σ₁ s₁ h₁ S₁ hu st₁=>?_
  refine h₁ s₁ v u S₁ (hv.mono (S.kp st₁)) hu _ E fun r p₃ σ₃ s₃ h₃ S₃ hr st₃=>?_
  exact store_local hk hx S₃ hr fun s₂ S₂ st₂=>k _ _ _ s₂ h₃ S₂ .next (st₁.up.trans (st₃.up.trans st₂))
 ·rw [hx] at e; rcases e with e | e <;> cases e
theorem iadd_ii {a b:Int} {P:PV→AS→Prop} (h:P (.int (a + b)) σ):OP2 g A F (inplaceOp .Add) (.int a) (.int b) σ P:=fun s v u S hv hu Q E k=>by
 cases hv; cases hu; exact wpAny_iadd_int (k _ _ σ _ h (S.toks _) (.int _ _) .toks)
theorem iadd_ss {x y:Str} {P:PV→AS→Prop} (hs:x.length + y.length≤sizeLine) (h:P (.str (x++y)) σ):OP2 g A F (inplaceOp .Add) (.str x) (.str y) σ P:=fun s v u S hv hu Q E k=>by
 cases hv; cases hu; exact PyProof.Rows.iadd_str (fun t' tk=>k _ _ σ _ h (S.toks _) (.str _ _) .toks) hs
structure Rm (A:Around) (n:Nat):Prop where
 handled:A.handled=none
 depth:A.depth + n < recursionLimit
 units:A.units + 10 * n + 10 < cLine
def ASGs (g:Gl) (A:Around) (F:Fm):List (Value→Sem Unit)→List PV→AS→(AS→Prop)→Prop:=fun ts ps σ P =>
 ∀ s vs,Sat g F σ s→VRs s.heap σ.own ps vs→∀ (Q:Unit→Shared→Prop) (E:Value→Shared→Prop),(∀ σ' s',P σ'→Sat g F σ' s'→Stp F.fr σ.own s σ'.own s'→Q () s')→wpAny (model g.prog g.w) A (assignInOrder ts vs) Q E s
theorem ASGs_nil {P:AS→Prop} (h:P σ):ASGs g A F [] [] σ P:=fun s vs S hv Q E k=>by cases hv; exact wpAny_pure (k σ s h S .refl)
theorem ASGs_bind {x:Str} {ts:List (Value→Sem Unit)} {p:PV} {ps:List PV} {P:AS→Prop} (hk:FnEnv F) (h:ASGs g A F ts ps (σ.set x p) P) (hx:F.env.kindOf x=some .local:=by with_unfolding_all rfl) :
  ASGs g A F ((fun v=>bindName F.env x v) :: ts) (p :: ps) σ P:=fun s vs S hvs Q E k=>by
 cases hvs with
 | cons hv hs =>
  show wpAny _ A (do holding _ (bindName F.env x _); assignInOrder ts _) Q E s
  refine wpAny_bind (wpAny_holding (wpAny_bindName (store_local hk hx S hv fun s₁ S₁ st₁=>?_)))
  exact h s₁ _ S₁ (hs.mono (S.kp st₁)) Q E fun σ' s' h' S' st'=>k σ' s' h' S' (st₁.trans st')
theorem ASGs_name {x:Str} {pos:Pos} {ts:List (Value→Sem Unit)} {p:PV} {ps:List PV} {P:AS→Prop} (hk:FnEnv F) (h:ASGs g A F ts ps (σ.set x p) P) (hx:F.env.kindOf x=some .local:=by with_unfolding_all rfl) :
  ASGs g A F ((assign (.Name x pos) F.env) :: ts) (p :: ps) σ P:=fun s vs S hvs Q E k=>by
 cases hvs with
 | cons hv hs =>
  show wpAny _ A (do holding _ (assign (.Name x pos) F.env _); assignInOrder ts _) Q E s
  refine wpAny_bind (wpAny_holding (assign_Name (store_local hk hx S hv fun s₁ S₁ st₁=>?_)))
  exact h s₁ _ S₁ (hs.mono (S.kp st₁)) Q E fun σ' s' h' S' st'=>k σ' s' h' S' (st₁.trans st')
theorem VRs.toArray {h:Heap} {own:List Addr} {ps:List PV} {items:Array Value} (x:VRs h own ps items.toList):items.size=ps.length:=by
 have:=x.length; simpa using this
theorem assign_tup {es:List Expr} {n:Nat} {pos:Pos} {ps:List PV} {v:Value} {Q:Unit→Shared→Prop} {E:Value→Shared→Prop} {P:AS→Prop} (hr:Rm A 0) (S:Sat g F σ s) (hv:VR s.heap σ.own (.tup ps) v)
  (hn:(assignEach es F.env).length=ps.length) (hstar:(assignEach es F.env).findIdx? (·.1)=none) (h:ASGs g A F ((assignEach es F.env).map (·.2)) ps σ P)
  (k:∀ σ' s',P σ'→Sat g F σ' s'→Stp F.fr σ.own s σ'.own s'→Q () s'):wpAny (model g.prog g.w) A (assign (.Tuple es n pos) F.env v) Q E s:=by
 cases hv with
 | tup ha ho hl =>
  refine assign_Tuple_tuple hr.handled ⟨_,ho,rfl,_,rfl⟩ (hn.trans hl.toArray.symm) hstar fun h' he=>?_
  have L:g.h₁.objs.size≤s.heap.objs.size:=by
   have:=S.lo _ (List.mem_append_left _ S.nin)
   exact Nat.le_of_lt (Nat.lt_of_le_of_lt this (S.fr_lt S.nin))
  have S':=S.ext L he (fun h=>Nat.lt_irrefl _ (S.fr_lt h)) (fun h=>Nat.lt_irrefl _ (S.own_lt h)) (fun o' e=>by rw [get?_size] at e; cases e)
  have st:Stp F.fr σ.own s σ.own { s with heap:=h' }:=Stp.refl.off (get?_size _) he
  exact h _ _ S' (hl.mono (S.kp st)) Q E fun σ' s' h' S' st'=>k σ' s' h' S' (st.trans st')
theorem EX_Assign_Tuple {es:List Expr} {n:Nat} {tpos pos:Pos} {value:Expr} {P:Fl→AS→Prop} (hr:Rm A 0)
  (h:EV g A F value σ fun p σ₁=>∃ ps,p=.tup ps∧(assignEach es F.env).length=ps.length∧ASGs g A F ((assignEach es F.env).map (·.2)) ps σ₁ (P .next))
  (hstar:(assignEach es F.env).findIdx? (·.1)=none:=by with_unfolding_all rfl)
  (hs:swapsWithSole [.Tuple es n tpos] value pos.line F.env=pure false:=by with_unfolding_all rfl) (hw:swappedStores [.Tuple es n tpos] value F.env=pure none:=by with_unfolding_all rfl):EX g A F (.Assign [.Tuple es n tpos] value pos) σ P:=by
 intro s S Q E k
 refine Assign_Tuple (h s S _ E fun v p σ₁ s₁ h₁ S₁ hv st₁=>?_) hs hw
 obtain ⟨ps,rfl,hn,h₂⟩:=h₁
 exact assign_tup hr S₁ hv hn hstar h₂ fun σ' s' h' S' st'=>k _ _ σ' s' h' S' .next (st₁.up.trans st')
theorem EX_Assign_swapped {es:List Expr} {n:Nat} {tpos pos:Pos} {value:Expr} {names:List Str} {P:Fl→AS→Prop} (hr:Rm A 0)
  (h:EV g A F value σ fun p σ₁=>∃ ps,p=.tup ps∧names.length=ps.length∧ASGs g A F (names.reverse.map fun n=>bindName F.env n) ps.reverse σ₁ (P .next))
  (hs:swapsWithSole [.Tuple es n tpos] value pos.line F.env=pure false:=by with_unfolding_all rfl) (hw:swappedStores [.Tuple es n tpos] value F.env=pure (some names):=by with_unfolding_all rfl):EX g A F (.Assign [.Tuple es n tpos] value pos) σ P:=by
 intro s S Q E k
 refine Assign_Tuple_swapped (h s S _ E fun v p σ₁ s₁ h₁ S₁ hv st₁=>?_) hs hw
 obtain ⟨ps,rfl,hn,h₂⟩:=h₁
 cases hv with
 | tup ha ho hl =>
  have hsz:=hl.toArray
  rw [hn,← hsz]
  refine unpackItems_tuple hr.handled ⟨_,ho,rfl,_,rfl⟩ fun h' he=>?_
  have L:g.h₁.objs.size≤s₁.heap.objs.size:=by
   have:=S₁.lo _ (List.mem_append_left _ S₁.nin)
   exact Nat.le_of_lt (Nat.lt_of_le_of_lt this (S₁.fr_lt S₁.nin))
  have S':=S₁.ext L he (fun h=>Nat.lt_irrefl _ (S₁.fr_lt h)) (fun h=>Nat.lt_irrefl _ (S₁.own_lt h)) (fun o' e=>by rw [get?_size] at e; cases e)
  have st:Stp F.fr σ₁.own s₁ σ₁.own { s₁ with heap:=h' }:=Stp.refl.off (get?_size _) he
  exact h₂ _ _ S' (hl.mono (S₁.kp st)).reverse _ E fun σ' s' h' S' st'=>k _ _ σ' s' h' S' .next (st₁.up.trans (st.trans st'))
end
end Mine
end SM3
section SM4
open PySem PySem.Calls PyProof.Rows
namespace Mine
def Off (g:Gl) (F:Fm) (own:List Addr) (ads:List Addr):Prop:=∀ a∈ads,a∉F.fr∧a∉own∧g.h₁.objs.size≤a
structure IterK (g:Gl) (A:Around) where
 Rel:Heap→List Addr→List Addr→List PV→Prop
 hard:∀ {h own ads xs},Rel h own ads xs→∀ a∈ads,∃ o,h.get? a=some o∧o.cls≠.none∧¬ frameLike o∧∀ xs n,o.data≠.seq xs n
 stable:∀ {h h' own own' ads xs},Rel h own ads xs→Kp h h' own own'→(∀ a∈ads,∀ o,h.get? a=some o→h'.get? a=some o)→Rel h' own' ads xs
 next:∀ {F:Fm} {σ:AS} {s:Shared} {ads it x xs} {Q:Option Value→Shared→Prop} {E:Value→Shared→Prop},ads.head?=some it→Sat g F σ s→Off g F σ.own ads→Rel s.heap σ.own ads (x :: xs) →
  (∀ v s',(∀ b o,s.heap.get? b=some o→b∉ads→s'.heap.get? b=some o)→s'.gens=s.gens→Sat g F σ s'→VR s'.heap σ.own x v→Rel s'.heap σ.own ads xs→Q (some v) s')→wpAny (model g.prog g.w) A (pyNext (.ref it)) Q E s
 stop:∀ {F:Fm} {σ:AS} {s:Shared} {ads it} {Q:Option Value→Shared→Prop} {E:Value→Shared→Prop},ads.head?=some it→Sat g F σ s→Off g F σ.own ads→Rel s.heap σ.own ads [] →
  (∀ s',(∀ b o,s.heap.get? b=some o→b∉ads→s'.heap.get? b=some o)→s'.gens=s.gens→Sat g F σ s'→Q none s')→wpAny (model g.prog g.w) A (pyNext (.ref it)) Q E s
 letGo:∀ {F:Fm} {σ:AS} {s:Shared} {ads it xs} {target:Expr} {v:Value} {Q:Unit→Shared→Prop} {E:Value→Shared→Prop},ads.head?=some it→Sat g F σ s→Off g F σ.own ads→Rel s.heap σ.own ads xs →
  (∀ s',(∀ b o,s.heap.get? b=some o→b∉ads→s'.heap.get? b=some o)→s'.gens=s.gens→Sat g F σ s'→Rel s'.heap σ.own ads xs→Q () s')→wpAny (model g.prog g.w) A (letOwnedTupleGo target (.ref it) v) Q E s
 self:∀ {F:Fm} {σ:AS} {s:Shared} {ads it xs} {Q:Value→Shared→Prop} {E:Value→Shared→Prop},ads.head?=some it→Sat g F σ s→Off g F σ.own ads→Rel s.heap σ.own ads xs→Q (.ref it) s→wpAny (model g.prog g.w) A (pyIter (.ref it)) Q E s
def AS1 (g:Gl) (A:Around) (F:Fm) (t:Expr) (p:PV) (σ:AS) (P:AS→Prop):Prop :=
 ∀ s v,Sat g F σ s→VR s.heap σ.own p v→∀ (Q:Unit→Shared→Prop) (E:Value→Shared→Prop),(∀ σ' s',P σ'→Sat g F σ' s'→Stp F.fr σ.own s σ'.own s'→Q () s')→wpAny (model g.prog g.w) A (assign t F.env v) Q E s
def ForP (g:Gl) (A:Around) (F:Fm) (t:Expr) (body orelse:List Stmt):List PV→AS→(Fl→AS→Prop)→Prop
 | [],σ,P=>EXs g A F orelse σ P
 | x :: xs,σ,P=>AS1 g A F t x σ fun σ₁=>EXs g A F body σ₁ fun fl σ₂=>match fl with
  | .next | .cont=>ForP g A F t body orelse xs σ₂ P
  | .brk=>P .next σ₂
  | .ret p=>P (.ret p) σ₂
section
variable {g:Gl} {A:Around} {F:Fm} {σ:AS} {s:Shared}
theorem AS1_name {x:Str} {pos:Pos} {p:PV} {P:AS→Prop} (hk:FnEnv F) (h:P (σ.set x p)) (hx:F.env.kindOf x=some .local:=by with_unfolding_all rfl):AS1 g A F (.Name x pos) p σ P :=
 fun s v S hv Q E k=>assign_Name (store_local hk hx S hv fun s' S' st=>k _ s' h S' st)
theorem AS1_tup {es:List Expr} {n:Nat} {pos:Pos} {ps:List PV} {P:AS→Prop} (hr:Rm A 0) (hn:(assignEach es F.env).length=ps.length) (h:ASGs g A F ((assignEach es F.env).map (·.2)) ps σ P)
  (hstar:(assignEach es F.env).findIdx? (·.1)=none:=by with_unfolding_all rfl):AS1 g A F (.Tuple es n pos) (.tup ps) σ P :=
 fun s v S hv Q E k=>assign_tup hr S hv hn hstar h k
theorem Stp.offs {fr own own':List Addr} {s₀ s':Shared} (x:Stp fr own s₀ own' s) {ads:List Addr} (ha:∀ a∈ads,s₀.heap.get? a=none) (hs:∀ b o,s.heap.get? b=some o→b∉ads→s'.heap.get? b=some o) (hg:s'.gens=s.gens):Stp fr own s₀ own' s':=by
 have ne:∀ b o,s₀.heap.get? b=some o→b∉ads:=fun b o e q=>by rw [ha b q] at e; cases e
 exact ⟨fun b o e nf no hc=>hs b o (x.keep b o e nf no hc) (ne b o e),fun b o e=>let ⟨o',e'⟩:=x.there b o e; ⟨o',hs b o' e' (ne b o e)⟩,x.fresh,fun i z e=>hg ▸ x.gens i z e⟩
theorem IterK.after {K:IterK g A} {σ':AS} {s':Shared} {fr ads:List Addr} {xs:List PV} (S:Sat g F σ s) (st:Stp fr σ.own s σ'.own s') (off:Off g F σ.own ads) (r:K.Rel s.heap σ.own ads xs) (hfr:∀ b∈fr,b∈F.fr:=by first | exact fun _ h=>h | exact fun _ h=>absurd h List.not_mem_nil) :
  Off g F σ'.own ads∧K.Rel s'.heap σ'.own ads xs:=by
 have hk:∀ a∈ads,∀ o,s.heap.get? a=some o→s'.heap.get? a=some o:=fun a ha o e=>by
  obtain ⟨o',e',hc,_⟩:=K.hard r a ha
  rw [e] at e'; cases e'
  exact st.keep a o e (fun h=>(off a ha).1 (hfr a h)) (off a ha).2.1 (.inl hc)
 refine ⟨fun a ha=>⟨(off a ha).1,fun hb=>?_,(off a ha).2.2⟩,K.stable r (S.kp st hfr) hk⟩
 rcases st.fresh a hb with q | q
 ·exact (off a ha).2.1 q
 ·obtain ⟨o',e',_⟩:=K.hard r a ha
  rw [e'] at q; cases q
theorem for_run {K:IterK g A} {t:Expr} {body orelse:List Stmt} {P:Fl→AS→Prop} {own₀:List Addr} {s₀:Shared} {R:Result→Shared→Prop} {ads:List Addr} {it:Addr} (hd:ads.head?=some it) (ha:∀ a∈ads,s₀.heap.get? a=none)
  (k:∀ f fl σ' s',P fl σ'→Sat g F σ' s'→FlR s'.heap σ'.own fl f→Stp F.fr own₀ s₀ σ'.own s'→R (.ok f) s')
  {xs:List PV} (S:Sat g F σ s) (st:Stp F.fr own₀ s₀ σ.own s) (off:Off g F σ.own ads) (r:K.Rel s.heap σ.own ads xs) (h:ForP g A F t body orelse xs σ P) :
  codeAny (model g.prog g.w) A (.forLoop t (.ref it) body orelse F.env) R s:=by
 refine codeAny_forLoop_any (fun n s=>∃ xs σ,n=xs.length∧Sat g F σ s∧Stp F.fr own₀ s₀ σ.own s∧Off g F σ.own ads∧K.Rel s.heap σ.own ads xs∧ForP g A F t body orelse xs σ P) ?_ xs.length ⟨xs,σ,rfl,S,st,off,r,h⟩
 clear S st off r h
 rintro n s ⟨xs,σ,rfl,S,st,off,r,h⟩
 cases xs with
 | nil =>
  refine K.stop hd S off r fun s' hs hg S'=>?_
  refine h s' S' _ _ fun f fl σ₂ s₂ h₂ S₂ hr st₂=>?_
  exact k f fl σ₂ s₂ h₂ S₂ hr ((st.offs ha hs hg).trans st₂)
 | cons x xs =>
  refine K.next hd S off r fun v s₁ hs hg S₁ hv r₁=>?_
  have st₁:=st.offs ha hs hg
  refine K.letGo hd S₁ off r₁ fun s₂ hs₂ hg₂ S₂ r₂=>?_
  have st₂:=st₁.offs ha hs₂ hg₂
  have kp₁₂:Kp s₁.heap s₂.heap σ.own σ.own:=fun b o xs n e d no=>⟨hs₂ b o e (fun q=>by
   obtain ⟨o',e',_,_,hq⟩:=K.hard r₁ b q
   rw [e] at e'; cases e'
   exact hq xs n d),no⟩
  refine h s₂ v S₂ (hv.mono kp₁₂) _ _ fun σ₃ s₃ h₃ S₃ st₃=>?_
  obtain ⟨off₃,r₃⟩:=K.after S₂ st₃ off r₂
  refine h₃ s₃ S₃ _ _ fun f fl σ₄ s₄ h₄ S₄ hr st₄=>?_
  obtain ⟨off₄,r₄⟩:=K.after S₃ st₄ off₃ r₃
  have stt:=st₂.trans (st₃.trans st₄)
  cases hr with
  | next=>exact ⟨xs.length,Nat.lt_succ_self _,xs,σ₄,rfl,S₄,stt,off₄,r₄,h₄⟩
  | cont=>exact ⟨xs.length,Nat.lt_succ_self _,xs,σ₄,rfl,S₄,stt,off₄,r₄,h₄⟩
  | brk=>exact k _ _ σ₄ s₄ h₄ S₄ .next stt
  | ret hv=>exact k _ _ σ₄ s₄ h₄ S₄ (.ret hv) stt
def IT (g:Gl) (A:Around) (F:Fm) (p:PV) (xs:List PV) (σ:AS):Prop :=
 ∀ s v,Sat g F σ s→VR s.heap σ.own p v→∀ (Q:Value→Shared→Prop) (E:Value→Shared→Prop),
  (∀ (K:IterK g A) it ads s',ads.head?=some it→Sat g F σ s'→Stp [] σ.own s σ.own s'→(∀ a∈ads,s.heap.get? a=none)→Off g F σ.own ads→K.Rel s'.heap σ.own ads xs→Q (.ref it) s') →
  wpAny (model g.prog g.w) A (pyIter v) Q E s
theorem EX_For {t iter:Expr} {body orelse:List Stmt} {pos:Pos} {P:Fl→AS→Prop} (h:EV g A F iter σ fun p σ₁=>∃ xs,IT g A F p xs σ₁∧ForP g A F t body orelse xs σ₁ P)
  (hs:∀ x,foldedSetIterable iter F.env x=pure x:=by intro _; with_unfolding_all rfl):EX g A F (.For t iter body orelse pos) σ P:=by
 intro s S Q E k
 refine wpAny_For (h s S _ E fun v p σ₁ s₁ h₁ S₁ hv st₁=>?_) hs
 obtain ⟨xs,hi,hf⟩:=h₁
 refine hi s₁ v S₁ hv _ E fun K it ads s₂ hd S₂ st₂ ha off r=>?_
 refine for_run hd ha (fun f fl σ' s' h' S' hr st'=>k f fl σ' s' h' S' hr (st₁.up.trans st')) S₂ st₂.up off r hf
theorem Sat.base_le (S:Sat g F σ s):g.h₁.objs.size≤s.heap.objs.size:=by
 have:=S.lo _ (List.mem_append_left _ S.nin)
 exact Nat.le_of_lt (Nat.lt_of_le_of_lt this (S.fr_lt S.nin))
theorem Sat.off_new (S:Sat g F σ s):Off g F σ.own [s.heap.objs.size]:=fun a ha=>by
 rw [List.mem_singleton] at ha; subst ha
 exact ⟨fun h=>Nat.lt_irrefl _ (S.fr_lt h),fun h=>Nat.lt_irrefl _ (S.own_lt h),S.base_le⟩
theorem drop_cons {α:Type} {l xs:List α} {x:α} {i:Nat} (e:l.drop i=x :: xs):l[i]?=some x∧l.drop (i + 1)=xs:=by
 have h1:l[i]?=some x:=by
  have:=congrArg (·[0]?) e
  simpa [List.getElem?_drop] using this
 refine ⟨h1,?_⟩
 have:=congrArg (List.drop 1) e
 simpa [List.drop_drop,Nat.add_comm] using this
theorem drop_nil {α:Type} {l:List α} {i:Nat} (e:l.drop i=[]):l[i]?=none:=by
 rw [List.drop_eq_nil_iff] at e
 exact List.getElem?_eq_none e
def listRel (h:Heap) (own:List Addr) (ads:List Addr) (xs:List PV):Prop :=
 ∃ it l i items n ps,ads=[it]∧h.IsListIter it l i∧l∉own∧h.get? l=some (lstObj items n)∧VRs h own ps items.toList∧ps.drop i=xs
theorem listiter_hard {h:Heap} {it l:Addr} {i:Nat} (x:h.IsListIter it l i):∃ o,h.get? it=some o∧o.cls≠.none∧¬ frameLike o∧∀ xs n,o.data≠.seq xs n:=by
 obtain ⟨o,e,hc,hd⟩:=x
 exact ⟨o,e,by rw [hc]; simp,fun q=>by rcases q with ⟨_,_,q⟩ | ⟨_,q⟩ <;> (rw [hd] at q; cases q),fun xs n q=>by rw [hd] at q; cases q⟩
def listK (g:Gl) (A:Around) (hr:Rm A 0):IterK g A where
  Rel := listRel
  hard := by
    rintro h own ads xs ⟨it, l, i, items, n, ps, rfl, hit, _⟩ a ha
    rw [List.mem_singleton] at ha; subst ha
    exact listiter_hard hit
  stable := by
    rintro h h' own own' ads xs ⟨it, l, i, items, n, ps, rfl, hit, hl, ho, hv, hx⟩ kp ka
    obtain ⟨e1, e2⟩ := kp l _ items n ho rfl hl
    exact ⟨it, l, i, items, n, ps, rfl, hit.at (ka it (by simp)), e2, e1, hv.mono kp, hx⟩
  next := by
    rintro F σ s ads it x xs Q E hd S off ⟨it', l, i, items, n, ps, rfl, hit, hl, ho, hv, hx⟩ k
    obtain rfl : it' = it := by simpa using hd
    obtain ⟨h1, h2⟩ := drop_cons hx
    obtain ⟨v, hv1, hv2⟩ := hv.get h1
    refine wpAny_pyNext_list_item hit ⟨_, ho, rfl, _, rfl⟩ (by simpa using hv1) fun h' hit' hs => ?_
    obtain ⟨o1, o2, o3⟩ := off it' (by simp)
    obtain ⟨o, e, _, hf, hq⟩ := listiter_hard hit
    have kk : ∀ b o, s.heap.get? b = some o → b ∉ [it'] → h'.get? b = some o := fun b o e hb => hs.extBut b o (by simpa using hb) e
    have kp : Kp s.heap h' σ.own σ.own := fun b o' xs n e' d no => ⟨kk b o' e' (fun q => by
      rw [List.mem_singleton] at q; subst q
      rw [e] at e'; cases e'
      exact hq xs n d), no⟩
    refine k v _ kk rfl (S.ext o3 hs.extBut o1 o2 fun o' e' => by rw [e] at e'; cases e'; exact ⟨hf, hq⟩) (hv2.mono kp) ⟨it', l, i + 1, items, n, ps, rfl, hit', hl, (kp l _ items n ho rfl hl).1, hv.mono kp, h2⟩
  stop := by
    rintro F σ s ads it Q E hd S off ⟨it', l, i, items, n, ps, rfl, hit, hl, ho, hv, hx⟩ k
    obtain rfl : it' = it := by simpa using hd
    have hnone : items[i]? = none := by
      have := drop_nil hx
      have hl' := hv.length
      rw [List.getElem?_eq_none_iff] at this
      simp only [Array.length_toList] at hl'
      rw [Array.getElem?_eq_none_iff]; omega
    refine wpAny_pyNext_list_end hr.handled hit ⟨_, ho, rfl, _, rfl⟩ hnone fun h' hs => ?_
    obtain ⟨o1, o2, o3⟩ := off it' (by simp)
    obtain ⟨o, e, _, hf, hq⟩ := listiter_hard hit
    exact k _ (fun b o e hb => hs b o (by simpa using hb) e) rfl (S.ext o3 hs o1 o2 fun o' e' => by rw [e] at e'; cases e'; exact ⟨hf, hq⟩)
  letGo := by
    rintro F σ s ads it xs target v Q E hd S off ⟨it', l, i, items, n, ps, rfl, hit, hl, ho, hv, hx⟩ k
    obtain rfl : it' = it := by simpa using hd
    have fin : Q () s := k s (fun _ _ e _ => e) rfl S ⟨it', l, i, items, n, ps, rfl, hit, hl, ho, hv, hx⟩
    obtain ⟨o, e, hc, hd'⟩ := hit
    unfold letOwnedTupleGo
    cases v <;> cases target <;> first
      | exact wpAny_pure fin
      | (refine wpAny_bind (wpAny_load e ?_)
         rw [hc, hd']
         exact wpAny_pure fin)
  self := by
    rintro F σ s ads it xs Q E hd S off ⟨it', l, i, items, n, ps, rfl, hit, hl, ho, hv, hx⟩ k
    obtain rfl : it' = it := by simpa using hd
    exact wpAny_pyIter_listiter hit k
theorem IT_lst {xs:List PV} (hr:Rm A 0):IT g A F (.lst xs) xs σ:=by
 intro s v S hv Q E k
 cases hv with
 | @lst _ l items n ha ho hl =>
  refine wpAny_pyIter_list ⟨_,ho,rfl,_,rfl⟩ ?_
  refine k (listK g A hr) s.heap.objs.size [s.heap.objs.size] _ rfl (S.push _) (.push _) (fun a ha'=>by rw [List.mem_singleton] at ha'; subst ha'; exact get?_size _) S.off_new ?_
  have kp:Kp s.heap (s.heap.push { cls:=.type "list_iterator",data:=.fields #[.ref l,.int 0 0] }) σ.own σ.own:=fun b o' xs n e _ no=>⟨Heap.get?_push_of_some _ e,no⟩
  exact ⟨_,_,0,_,_,xs,rfl,⟨_,Heap.get?_push_size _ rfl,rfl,rfl⟩,ha,Heap.get?_push_of_some _ ho,hl.mono kp,rfl⟩
end
end Mine
end SM4
section SM5
open PySem PySem.Calls PyProof.Rows
namespace Mine
def WhP (g:Gl) (A:Around) (F:Fm) (test:Expr) (body orelse:List Stmt):Nat→AS→(Fl→AS→Prop)→Prop
 | 0,_,_=>False
 | n + 1,σ,P=>TR g A F test σ fun b σ₁=>if b=true then EXs g A F body σ₁ fun fl σ₂=>(match fl with
   | .next | .cont=>WhP g A F test body orelse n σ₂ P
   | .brk=>P .next σ₂
   | .ret p=>P (.ret p) σ₂) else EXs g A F orelse σ₁ P
section
variable {g:Gl} {A:Around} {F:Fm} {σ:AS} {s:Shared}
theorem while_run {test:Expr} {body orelse:List Stmt} {P:Fl→AS→Prop} {own₀:List Addr} {s₀:Shared} {R:Result→Shared→Prop}
  (k:∀ f fl σ' s',P fl σ'→Sat g F σ' s'→FlR s'.heap σ'.own fl f→Stp F.fr own₀ s₀ σ'.own s'→R (.ok f) s')
  {n:Nat} (S:Sat g F σ s) (st:Stp F.fr own₀ s₀ σ.own s) (h:WhP g A F test body orelse n σ P) :
  codeAny (model g.prog g.w) A (.whileLoop test body orelse F.env) R s:=by
 refine codeAny_whileLoop (fun n s=>∃ σ,Sat g F σ s∧Stp F.fr own₀ s₀ σ.own s∧WhP g A F test body orelse n σ P) ?_ n ⟨σ,S,st,h⟩
 clear S st h
 rintro n s ⟨σ,S,st,h⟩
 cases n with
 | zero=>exact h.elim
 | succ n =>
  refine h s S _ _ fun b b' σ₁ s₁ h₁ S₁ hb st₁=>?_
  cases hb
  cases b with
  | false=>exact h₁ s₁ S₁ _ _ fun f fl σ₂ s₂ h₂ S₂ hr st₂=>k f fl σ₂ s₂ h₂ S₂ hr (st.trans (st₁.up.trans st₂))
  | true =>
   refine h₁ s₁ S₁ _ _ fun f fl σ₂ s₂ h₂ S₂ hr st₂=>?_
   have stt:=st.trans (st₁.up.trans st₂)
   cases hr with
   | next=>exact ⟨n,Nat.lt_succ_self _,σ₂,S₂,stt,h₂⟩
   | cont=>exact ⟨n,Nat.lt_succ_self _,σ₂,S₂,stt,h₂⟩
   | brk=>exact k _ _ σ₂ s₂ h₂ S₂ .next stt
   | ret hv=>exact k _ _ σ₂ s₂ h₂ S₂ (.ret hv) stt
theorem EX_While {test:Expr} {body orelse:List Stmt} {pos:Pos} {P:Fl→AS→Prop} (n:Nat) (h:WhP g A F test body orelse n σ P):EX g A F (.While test body orelse pos) σ P:=by
 intro s S Q E k
 exact wpAny_While (while_run (own₀:=σ.own) (s₀:=s) (fun f fl σ' s' h' S' hr st=>k f fl σ' s' h' S' hr st) S .refl h)
structure FnAt (g:Gl) (f:Addr) (fd:FuncData) (body:List Stmt):Prop where
 at_:∃ o,g.h₁.get? f=some o∧o.cls≠.none∧o.data=.func fd
 bd:fd.body=.stmts body
 kind:fd.scope.kind=.function
 gen:fd.scope.isGenerator=false
 co:fd.scope.isCoroutine=false
 gl:fd.globals=mainGlobals
 bl:fd.builtins=builtinsNs
 code:∃ c o vs t,fd.code=.ref c∧g.h₁.get? c=some o∧o.cls≠.none∧o.data=.fields vs∧vs[1]?=some (.str fd.qualname t)
theorem FnAt.now {f:Addr} {fd:FuncData} {body:List Stmt} (h:FnAt g f fd body) (S:Sat g F σ s):∃ o,s.heap.get? f=some o∧o.data=.func fd :=
 let ⟨o,e,hc,hd⟩:=h.at_; ⟨o,S.old.get_of_cls e hc,hd⟩
theorem FnAt.codeRec {f:Addr} {fd:FuncData} {body:List Stmt} (h:FnAt g f fd body) (S:Sat g F σ s):s.heap.CodeRec fd.code fd.qualname :=
 let ⟨c,o,vs,t,e,e1,hc,hd,hv⟩:=h.code; ⟨c,o,vs,t,e,S.old.get_of_cls e1 hc,hd,hv⟩
theorem Sat.cell_off (S:Sat g F σ s) {c:Addr} {o:Obj} {v:Option Value} (e:s.heap.get? c=some o) (d:o.data=.cell v):c∉σ.own:=by
 intro hc
 unfold AS.own at hc
 obtain ⟨z,hz,h⟩:=List.mem_flatMap.mp hc
 have:=S.zs z hz
 obtain ⟨b,mo⟩:=z
 cases mo with
 | list l =>
  obtain ⟨items,n,h1,h2⟩:=this
  simp [MO.addrs] at h; subst h
  rw [e] at h1; cases h1; cases d
 | obj ob =>
  simp [MO.addrs] at h; subst h
  have q:=this.1
  rw [e] at q; cases q
  exact this.2.1 _ d
 | inst dx C att body =>
  obtain ⟨dd,es,n,h1,h2,h3,h4⟩:=this
  simp [MO.addrs] at h
  rcases h with rfl | rfl
  ·rw [e] at h1; cases h1
   cases body with
   | none=>rw [show dd=Data.plain from h2] at d; cases d
   | some l=>obtain ⟨_,_,q,_⟩:=h2; rw [q] at d; cases d
  ·rw [e] at h3; cases h3; cases d
theorem Sat.back {F':Fm} {σ':AS} {s':Shared} (S:Sat g F σ s) (S':Sat g F' σ' s') {fr:List Addr} (st:Stp fr σ.own s σ'.own s') (fk:∀ a∈F.fr,∀ o,s.heap.get? a=some o→s'.heap.get? a=some o) (hfr:∀ b∈fr,b∈F.fr:=by first | exact fun _ h=>h | exact fun _ h=>absurd h List.not_mem_nil):Sat g F ⟨σ.loc,σ'.zone⟩ s':=by
 have hk:∀ b o,s.heap.get? b=some o→frameLike o→b∉σ.own→s'.heap.get? b=some o:=fun b o e fl no=>by
  by_cases hb:b∈F.fr
  ·exact fk b hb o e
  ·exact st.keep b o e (fun h=>hb (hfr b h)) no fl.hard
 have hL:F.env.locals∉σ.own:=fun h=>(List.nodup_append.mp S.nd).2.2 _ S.nin _ h rfl
 refine ⟨S'.old,S'.lim,S'.os,S'.bare,?_,fun a ha=>?_,S'.zs,fun a ha=>?_,?_,S.nin,fun x p e=>?_,S.cs,S.cl.to fun b o e hc=>hk b o e (.inr hc) (let ⟨v,d⟩:=hc; S.cell_off e d)⟩
 ·refine List.nodup_append.mpr ⟨(List.nodup_append.mp S.nd).1,(List.nodup_append.mp S'.nd).2.1,fun a ha b hb q=>?_⟩
  subst q
  rcases st.fresh a hb with q | q
  ·exact (List.nodup_append.mp S.nd).2.2 a ha a q rfl
  ·obtain ⟨o,e,_⟩:=S.fr a ha
   rw [e] at q; cases q
 ·rcases List.mem_append.mp ha with h | h
  ·exact S.lo a (List.mem_append_left _ h)
  ·exact S'.lo a (List.mem_append_right _ h)
 ·obtain ⟨o,e,fl⟩:=S.fr a ha
  exact ⟨o,fk a ha o e,fl⟩
 ·obtain ⟨m,o,es,ep,e,d,r⟩:=S.ns
  exact ⟨m,o,es,ep,hk _ _ e (.inl ⟨es,ep,d⟩) hL,d,r⟩
 ·obtain ⟨v,h1,h2⟩:=S.loc x p e
  refine ⟨v,?_,h2.mono (S.kp st hfr)⟩
  rcases h1 with ⟨a,m,⟨o,es,ep,e,d,r⟩,c⟩ | ⟨a,c,o',h3,h4,h5⟩
  ·exact .inl ⟨a,m,⟨o,es,ep,hk _ _ e (.inl ⟨es,ep,d⟩) hL,d,r⟩,c⟩
  ·exact .inr ⟨a,c,o',h3,hk _ _ h4 (.inr ⟨_,h5⟩) (S.cell_off h4 h5),h5⟩
theorem zip_lookup {h:Heap} {own:List Addr}:∀ {xs:List Str} {ps:List PV} {vs:List Value},VRs h own ps vs→∀ {x:Str} {p:PV},(xs.zip ps).lookup x=some p→∃ v,(xs.zip vs).lookup x=some v∧VR h own p v
 | [],_,_,_,x,p,e=>by simp at e
 | y :: xs,_,_,.nil,x,p,e=>by simp at e
 | y :: xs,_,_,.cons hv hs,x,p,e=>by
  simp only [List.zip_cons_cons,List.lookup_cons] at e ⊢
  cases q:x == y with
  | true=>rw [q] at e; cases e; exact ⟨_,rfl,hv⟩
  | false=>rw [q] at e; exact zip_lookup hs e
theorem lookup_append {α:Type} {x:Str}:∀ (l r:List (Str × α)),(l++r).lookup x=(l.lookup x).or (r.lookup x)
 | [],r=>by simp
 | (y,v) :: l,r=>by
  simp only [List.cons_append,List.lookup_cons]
  cases x == y
  ·exact lookup_append l r
  ·rfl
theorem lookup_none_of {α:Type} {x:Str}:∀ {l:List (Str × α)},x∉l.map (·.1)→l.lookup x=none
 | [],_=>rfl
 | (y,v) :: l,h=>by
  simp only [List.map_cons,List.mem_cons,not_or] at h
  rw [List.lookup_cons,show (x == y)=false from by simpa using h.1]
  exact lookup_none_of h.2
theorem lookup_reverse {α:Type}:∀ {l:List (Str × α)},(l.map (·.1)).Nodup→∀ x,l.reverse.lookup x=l.lookup x
 | [],_,_=>rfl
 | (y,v) :: l,h,x=>by
  simp only [List.map_cons,List.nodup_cons] at h
  rw [List.reverse_cons,lookup_append,lookup_reverse h.2,List.lookup_cons]
  cases q:x == y with
  | true =>
   have:x=y:=eq_of_beq q
   subst this
   rw [lookup_none_of h.1]
   simp
  | false=>simp [List.lookup_cons,q]
def CLC (g:Gl) (A:Around) (F:Fm) (f:Value) (ps:List PV) (σ:AS) (P:PV→AS→Prop):Prop :=
 ∀ s vs,Sat g F σ s→VRs s.heap σ.own ps vs→∀ (R:Result→Shared→Prop),
  (∀ a b σ' s',P b σ'→Sat g F σ' s'→VR s'.heap σ'.own b a→Stp [] σ.own s σ'.own s'→R (.ok (.ret a)) s')→codeAny (model g.prog g.w) A (.call f ⟨vs,[]⟩) R s
theorem CLC.cl {f:Value} {ps:List PV} {P:PV→AS→Prop} (x:CLC g A F f ps σ P):CL g A F f ps σ P:=fun s vs S hvs Q E k=>wpAny_call (x s vs S hvs _ fun a b σ' s' h S' hv st=>k a b σ' s' h S' hv st)
def fnFm (fd:FuncData) (L f:Addr):Fm:=⟨callEnv fd L f,[L]⟩
theorem Rm.deeper {n:Nat} {env:Env} (h:Rm A (n + 1)):Rm (A.deeper env) n:=by
 obtain ⟨a,b,c⟩:=h
 exact ⟨a,by show A.depth + 1 + n < recursionLimit; omega,by show A.units + 3 + 10 * n + 10 < cLine; omega⟩
theorem Rm.le {n m:Nat} (h:Rm A n) (hm:m≤n):Rm A m:=⟨h.handled,by have:=h.depth; omega,by have:=h.units; omega⟩
theorem CLC_fn {f:Addr} {fd:FuncData} {body:List Stmt} {xs:List Str} {ps:List PV} {P:PV→AS→Prop} {n:Nat} (hr:Rm A (n + 1)) (hf:FnAt g f fd body) (hx:xs.Nodup) (hlen:xs.length=ps.length)
  (hb:∀ vs:List Value,vs.length=ps.length→bindArgs fd ⟨vs,[]⟩=pure (xs.zip vs))
  (hcellB:(fd.scope.names.all fun x=>x.2 != .cell)=true) (hlocB:(xs.all fun x=>fd.scope.names.lookup x == some .local)=true)
  (h:∀ L,EXs g (A.deeper (callEnv fd L f)) (fnFm fd L f) body ⟨xs.zip ps,σ.zone⟩ fun fl σ'=>P (match fl with | .ret p=>p | _=>.raw .none) ⟨σ.loc,σ'.zone⟩) :
  CLC g A F (.ref f) ps σ P:=by
 intro s vs S hvs R k
 have hcell:∀ x∈fd.scope.names,x.2≠.cell:=fun x hx=>by simpa using List.all_eq_true.mp hcellB x hx
 have hloc:∀ x∈xs,fd.scope.names.lookup x=some .local:=fun x hx=>by simpa using List.all_eq_true.mp hlocB x hx
 obtain ⟨o,e,hd⟩:=hf.now S
 have hlv:=hvs.length
 refine codeAny_call_def (hr.le (Nat.zero_le _)).depth e hd S.lim (hf.codeRec S) hf.bd (.of_eq (hb vs hlv)) hcell (fun x hx'=>?_) (fun h₀ hn hk=>?_) hf.co hf.gen hf.kind
 ·exact hloc _ (List.of_mem_zip hx').1
 ·have hkeys:((xs.zip vs).map (·.1))=xs:=by
   rw [List.map_fst_zip]; omega
  have hL:s.heap.objs.size∉σ.own:=fun h=>Nat.lt_irrefl _ (S.own_lt h)
  have kp:Kp s.heap h₀ σ.own σ.own:=fun b o xs n e _ no=>⟨hk b o e,no⟩
  have S₀:Sat g (fnFm fd s.heap.objs.size f) ⟨xs.zip ps,σ.zone⟩ { s with heap:=h₀,toks:=s.toks + (xs.zip vs).length }:=by
   refine ⟨S.old.step_keeps hk,S.lim.keeps hk,S.os,S.bare,?_,fun a ha=>?_,fun z hz=>?_,fun a ha=>?_,⟨_,hn⟩,by simp [fnFm,callEnv,newEnv],fun x p ex=>?_,S.cs,fun x c hx _ _ _=>absurd rfl (hcell _ (mem_of_lookup hx))⟩
   ·show ([s.heap.objs.size]++σ.own).Nodup
    exact List.nodup_cons.mpr ⟨hL,(List.nodup_append.mp S.nd).2.1⟩
   ·rcases List.mem_append.mp ha with h | h
    ·simp [fnFm] at h; subst h; exact S.base_le
    ·exact S.lo a (List.mem_append_right _ h)
   ·have:=S.zs z hz
    obtain ⟨b,mo⟩:=z
    cases mo with
    | list l=>obtain ⟨items,n,h1,h2⟩:=this; exact ⟨items,n,hk _ _ h1,h2.mono kp⟩
    | obj ob=>exact ⟨hk _ _ this.1,this.2⟩
    | inst dx C att body =>
     obtain ⟨d,es,n,h1,h2,h3,h4⟩:=this
     refine ⟨d,es,n,hk _ _ h1,?_,hk _ _ h3,h4.mono kp⟩
     cases body with
     | none=>exact h2
     | some l=>obtain ⟨items,n',e1,e2⟩:=h2; exact ⟨items,n',e1,e2.mono kp⟩
   ·simp [fnFm] at ha; subst ha
    obtain ⟨o,es,ep,e,d,_⟩:=hn
    exact ⟨o,e,.inl ⟨es,ep,d⟩⟩
   ·obtain ⟨v,h1,h2⟩:=zip_lookup hvs ex
    refine ⟨v,.inl ⟨?_,_,hn,?_⟩,h2.mono kp⟩
    ·have hm:x∈xs:=by
      have:=List.lookup_eq_some_iff.mp h1
      obtain ⟨l1,l2,e1,_⟩:=this
      have:(x,v)∈xs.zip vs:=by rw [e1]; simp
      exact (List.of_mem_zip this).1
     show fd.scope.names.lookup x=some .local
     exact hloc x hm
    ·rw [lookup_reverse (by rw [hkeys]; exact hx)]; exact h1
  have st₀:Stp [] σ.own s σ.own { s with heap:=h₀,toks:=s.toks + (xs.zip vs).length }:=⟨fun b o e _ _ _=>hk b o e,fun b o e=>⟨o,hk b o e⟩,fun _ h=>.inl h,fun _ _ e=>e⟩
  refine h s.heap.objs.size _ S₀ _ _ fun fv fl σ' s' hP S' hr' st'=>?_
  have hne:∀ b o,s.heap.get? b=some o→b∉[s.heap.objs.size]:=fun b o e q=>by
   rw [List.mem_singleton] at q; subst q
   rw [get?_size] at e; cases e
  have stt:Stp [] σ.own s σ'.own s':=by
   refine ⟨fun b o e nf no hc=>st'.keep b o (hk b o e) (hne b o e) no hc,fun b o e=>st'.there b o (hk b o e),fun a ha=>?_,fun i x e=>st'.gens i x e⟩
   rcases st'.fresh a ha with q | q
   ·exact .inl q
   ·refine .inr ?_
    cases q':s.heap.get? a with
    | none=>rfl
    | some o=>rw [show _=_ from hk a o q'] at q; cases q
  have Sb:=S.back S' stt fun a ha o e=>by
   obtain ⟨o',e',fl⟩:=S.fr a ha
   rw [e] at e'; cases e'
   exact st'.keep a o (hk a o e) (hne a o e) (fun q=>(List.nodup_append.mp S.nd).2.2 a ha a q rfl) fl.hard
  cases hr' with
  | ret hv=>exact k _ _ ⟨σ.loc,σ'.zone⟩ s' hP Sb hv stt
  | next=>exact k _ _ ⟨σ.loc,σ'.zone⟩ s' hP Sb (.raw _) stt
  | brk=>exact k _ _ ⟨σ.loc,σ'.zone⟩ s' hP Sb (.raw _) stt
  | cont=>exact k _ _ ⟨σ.loc,σ'.zone⟩ s' hP Sb (.raw _) stt
theorem CL_fn {f:Addr} {fd:FuncData} {body:List Stmt} {xs:List Str} {ps:List PV} {P:PV→AS→Prop} {n:Nat} (hr:Rm A (n + 1)) (hf:FnAt g f fd body) (hx:xs.Nodup) (hlen:xs.length=ps.length)
  (hb:∀ vs:List Value,vs.length=ps.length→bindArgs fd ⟨vs,[]⟩=pure (xs.zip vs))
  (hcellB:(fd.scope.names.all fun x=>x.2 != .cell)=true) (hlocB:(xs.all fun x=>fd.scope.names.lookup x == some .local)=true)
  (h:∀ L,EXs g (A.deeper (callEnv fd L f)) (fnFm fd L f) body ⟨xs.zip ps,σ.zone⟩ fun fl σ'=>P (match fl with | .ret p=>p | _=>.raw .none) ⟨σ.loc,σ'.zone⟩) :
  CL g A F (.ref f) ps σ P:=(CLC_fn hr hf hx hlen hb hcellB hlocB h).cl
def isRefV:Value→Bool
 | .ref _=>true
 | _=>false
theorem callWith_flat {M:Model} {A:Around} {E:Value→Shared→Prop} {s:Shared} {pos:Pos} {f:Value} {first:List Value} {args:List (Bool × Sem Value)} {Q:Value→Shared→Prop} (hf:isRefV f=false) (hplain:args.any (·.1)=false)
  (h:wpAny M A (evalArgs f true args []) (fun a s₁=>wpAny M A (call f (first++a.pos) a.kw) Q E s₁) E s) :
  wpAny M A (callWith pos f first args []) Q E s:=by
 have hkp:keeperOf f=pure .machine:=by cases f <;> first | rfl | cases hf
 unfold callWith
 refine wpAny_bind (wpAny_holding (wpAny_mono h (fun a s₁ h₁=>wpAny_bind (wpAny_standAt ?_)) fun _ _ x=>x))
 simp only [hplain,List.any_nil,Bool.or_false,hkp]
 refine wpAny_bind (wpAny_pure ?_)
 exact wpAny_bind (wpAny_mono h₁ (fun r s₂ hr=>wpAny_bind (wpAny_holding (wpAny_point (wpAny_pure hr)))) fun _ _ x=>x)
theorem evalArgs_EVs {f:Value} {es:List Expr} {pos:Pos} {P:List PV→AS→Prop} (h:EVs g A F es σ P) (hns:(backTo pos (starEach es F.env)).any (·.1)=false) {Q:Args→Shared→Prop} {E:Value→Shared→Prop} (S:Sat g F σ s)
  (k:∀ vs ps σ' s',P ps σ'→Sat g F σ' s'→VRs s'.heap σ'.own ps vs→Stp [] σ.own s σ'.own s'→Q ⟨vs,[]⟩ s'):wpAny (model g.prog g.w) A (evalArgs f true (backTo pos (starEach es F.env)) []) Q E s:=by
 have hh:=h pos s S (fun vs s'=>Q ⟨vs,[]⟩ s') E fun vs ps σ' s' h' S' hv st=>k vs ps σ' s' h' S' hv st
 generalize he:backTo pos (starEach es F.env)=l at hh hns
 cases l with
 | nil =>
  unfold evalArgs
  show wpAny _ A (spliced []>>=_) Q E s
  refine wpAny_bind (wpAny_mono hh (fun vs s' h'=>wpAny_holding ?_) fun _ _ x=>x)
  exact wpAny_bind (wpAny_pure (wpAny_bind (wpAny_pure (wpAny_pure h'))))
 | cons a l =>
  obtain ⟨b,t⟩:=a
  cases b with
  | true=>simp at hns
  | false=>exact evalArgs_plain hh
theorem EV_Call_fn {func:Expr} {args:List Expr} {pos:Pos} {f:Addr} {fd:FuncData} {body:List Stmt} {P:PV→AS→Prop} (hf:FnAt g f fd body)
  (h:EV g A F func σ fun p σ₁=>p=.raw (.ref f)∧EVs g A F args σ₁ fun ps σ₂=>CL g A F (.ref f) ps σ₂ P)
  (he:eval (.Call func args [] pos) F.env=(do callWith pos (← eval func F.env) [] (backTo pos (starEach args F.env)) (backToKw pos (keywordEach [] F.env))):=by with_unfolding_all rfl)
  (hns:(backTo pos (starEach args F.env)).any (·.1)=false:=by with_unfolding_all rfl):EV g A F (.Call func args [] pos) σ P:=by
 intro s S Q E k
 refine Call_ (h s S _ E fun v p σ₁ s₁ h₁ S₁ hv st₁=>?_) he
 obtain ⟨rfl,h₁⟩:=h₁
 cases hv
 obtain ⟨o,e,hd⟩:=hf.now S₁
 refine callWith_function (o:=o) (fd:=fd) (evalArgs_EVs h₁ hns S₁ fun vs ps σ₂ s₂ h₂ S₂ hvs st₂=>?_)
 obtain ⟨o',e',hd'⟩:=hf.now S₂
 have:o'=o:=by
  obtain ⟨o₀,e₀,hc₀,hd₀⟩:=hf.at_
  have q1:=S₂.old.get_of_cls e₀ hc₀
  have q2:=S₁.old.get_of_cls e₀ hc₀
  exact (Option.some.inj (e'.symm.trans q1)).trans (Option.some.inj (e.symm.trans q2)).symm
 subst this
 refine ⟨⟨e',hd⟩,h₂ s₂ vs S₂ hvs Q E fun a b σ' s' h' S' hr st'=>k a b σ' s' h' S' hr (st₁.trans (st₂.trans st'))⟩
theorem EV_Call_flat {func:Expr} {args:List Expr} {pos:Pos} {P:PV→AS→Prop}
  (h:EV g A F func σ fun p σ₁=>∃ f,p=.raw f∧isRefV f=false∧EVs g A F args σ₁ fun ps σ₂=>CL g A F f ps σ₂ P)
  (he:eval (.Call func args [] pos) F.env=(do callWith pos (← eval func F.env) [] (backTo pos (starEach args F.env)) (backToKw pos (keywordEach [] F.env))):=by with_unfolding_all rfl)
  (hns:(backTo pos (starEach args F.env)).any (·.1)=false:=by with_unfolding_all rfl):EV g A F (.Call func args [] pos) σ P:=by
 intro s S Q E k
 refine Call_ (h s S _ E fun v p σ₁ s₁ h₁ S₁ hv st₁=>?_) he
 obtain ⟨f,rfl,hff,h₁⟩:=h₁
 cases hv
 refine callWith_flat hff hns (evalArgs_EVs h₁ hns S₁ fun vs ps σ₂ s₂ h₂ S₂ hvs st₂=>?_)
 exact h₂ s₂ vs S₂ hvs Q E fun a b σ' s' h' S' hr st'=>k a b σ' s' h' S' hr (st₁.trans (st₂.trans st'))
def MT (g:Gl) (A:Around) (F:Fm) (p:PV) (name:Str) (id:String) (σ:AS):Prop :=
 ∀ s v,Sat g F σ s→VR s.heap σ.own p v→∀ (pl:Sem Bool) (Q:Value × List Value→Shared→Prop) (E:Value→Shared→Prop),(∀ n,Q (.builtin id,[v]) { s with toks:=n })→wpAny (model g.prog g.w) A (getMethod v name pl) Q E s
theorem EV_Meth {o:Expr} {name:Str} {apos pos:Pos} {args:List Expr} {pl:Sem Bool} {P:PV→AS→Prop}
  (h:EV g A F o σ fun p σ₁=>∃ id,MT g A F p name id σ₁∧EVs g A F args σ₁ fun ps σ₂=>CL g A F (.builtin id) (p :: ps) σ₂ P)
  (he:eval (.Call (.Attribute o name apos) args [] pos) F.env=(do
   let ov ← eval o F.env
   standAt apos.atName
   let (f,first) ← holding [ov] (getMethod ov name pl)
   callWith pos f first (backTo pos (starEach args F.env)) []):=by with_unfolding_all rfl)
  (hns:(backTo pos (starEach args F.env)).any (·.1)=false:=by with_unfolding_all rfl):EV g A F (.Call (.Attribute o name apos) args [] pos) σ P:=by
 intro s S Q E k
 refine MethodCall_ (pl:=pl) (h s S _ E fun v p σ₁ s₁ h₁ S₁ hv st₁=>?_) he
 obtain ⟨id,hm,h₁⟩:=h₁
 refine hm s₁ v S₁ hv pl _ E fun n=>?_
 refine callWith_builtin hns (evalArgs_EVs h₁ hns (S₁.toks n) fun vs ps σ₂ s₂ h₂ S₂ hvs st₂=>?_)
 refine h₂ s₂ (v :: vs) S₂ (.cons (hv.mono (S₁.kp (Stp.trans .toks st₂))) hvs) Q E fun a b σ' s' h' S' hr st'=>k a b σ' s' h' S' hr (st₁.trans (Stp.trans .toks (st₂.trans st')))
def IX (g:Gl) (A:Around) (F:Fm) (value slice:Expr) (p q:PV) (σ:AS) (P:PV→AS→Prop):Prop:=OP2 g A F (subscriptTail value slice) p q σ P
theorem EV_Subscript {value slice:Expr} {pos:Pos} {P:PV→AS→Prop} (h:EV g A F value σ fun p σ₁=>EV g A F slice σ₁ fun q σ₂=>IX g A F value slice p q σ₂ P):EV g A F (.Subscript value slice pos) σ P:=by
 intro s S Q E k
 refine Subscript_ (h s S _ E fun v p σ₁ s₁ h₁ S₁ hv st₁=>?_)
 refine h₁ s₁ S₁ _ E fun u q σ₂ s₂ h₂ S₂ hu st₂=>?_
 exact h₂ s₂ v u S₂ (hv.mono (S₁.kp st₂)) hu _ E fun r p₃ σ₃ s₃ h₃ S₃ hr st₃=>k r p₃ σ₃ s₃ h₃ S₃ hr (st₁.trans (st₂.trans st₃))
end
end Mine
end SM5
section SM6
open PySem PySem.Calls PyProof.Rows
namespace Mine
inductive ZAt (D:Addr) (m m':MO):List (Addr × MO)→List (Addr × MO)→Prop
 | head {r}:ZAt D m m' ((D,m) :: r) ((D,m') :: r)
 | tail {z r r'} (h:ZAt D m m' r r'):ZAt D m m' (z :: r) (z :: r')
theorem ZAt.split {D:Addr} {m m':MO} {z z':List (Addr × MO)} (h:ZAt D m m' z z'):∃ pre post,z=pre++(D,m) :: post∧z'=pre++(D,m') :: post:=by
 induction h with
 | head=>exact ⟨[],_,rfl,rfl⟩
 | tail _ ih=>obtain ⟨pre,post,a,b⟩:=ih; exact ⟨_ :: pre,post,by rw [a]; rfl,by rw [b]; rfl⟩
theorem OldK.exts {h₀ h h':Heap} {T:List Addr} (K:OldK h₀ h) (ha:∀ a∈T,h₀.objs.size≤a) (hs:∀ b o,b∉T→h.get? b=some o→h'.get? b=some o):OldK h₀ h':=by
 have ne:∀ b o,h₀.get? b=some o→b∉T:=fun b o e q=>Nat.lt_irrefl _ (Nat.lt_of_lt_of_le (Heap.lt_size e) (ha b q))
 refine ⟨fun b o e=>?_,fun b o e=>let ⟨o',ho'⟩:=K.there b o e; ⟨o',hs b _ (ne b o e) ho'⟩⟩
 rcases K.old b o e with x | ⟨t,hc,vs,more,hv,x⟩ | ⟨rfl,hc,⟨o',es,n,ho',r⟩,z⟩
 ·exact .inl (hs b _ (ne b o e) x)
 ·exact .inr (.inl ⟨t,hc,vs,more,hv,hs b _ (ne b o e) x⟩)
 ·exact .inr (.inr ⟨rfl,hc,⟨o',es,n,hs _ _ (ne _ o e) ho',r⟩,fun key=>by rw [OldK.staticOf_congr ((hs _ _ (ne _ o e) ho').trans ho'.symm) key]; exact z key⟩)
theorem OldT.exts {h₀ h h':Heap} {T:List Addr} (K:OldT h₀ h) (ha:∀ a∈T,h₀.objs.size≤a) (hs:∀ b o,b∉T→h.get? b=some o→h'.get? b=some o):OldT h₀ h' :=
 ⟨OldK.exts K.k ha hs,fun P ps e t=>let ⟨ps',e',t'⟩:=K.tab P ps e t; ⟨ps',hs _ _ (fun q=>Nat.lt_irrefl _ (Nat.lt_of_lt_of_le (Heap.lt_size e) (ha _ q))) e',t'⟩⟩
section
variable {g:Gl} {A:Around} {F:Fm} {σ:AS} {s:Shared}
theorem ZR.mono {h h':Heap} {own own':List Addr} {a:Addr} {m:MO} (z:ZR h own a m) (kp:Kp h h' own own') (hk:∀ b∈m.addrs a,∀ o,h.get? b=some o→h'.get? b=some o):ZR h' own' a m:=by
 cases m with
 | list l=>obtain ⟨items,n,h1,h2⟩:=z; exact ⟨items,n,hk a (by simp [MO.addrs]) _ h1,h2.mono kp⟩
 | obj ob=>exact ⟨hk a (by simp [MO.addrs]) _ z.1,z.2⟩
 | inst dx C att body =>
  obtain ⟨d,es,n,h1,h2,h3,h4⟩:=z
  refine ⟨d,es,n,hk a (by simp [MO.addrs]) _ h1,?_,hk dx (by simp [MO.addrs]) _ h3,h4.mono kp⟩
  cases body with
  | none=>exact h2
  | some l=>obtain ⟨items,n',e1,e2⟩:=h2; exact ⟨items,n',e1,e2.mono kp⟩
theorem ZR.at_addrs {h:Heap} {own:List Addr} {a:Addr} {m:MO} (z:ZR h own a m):∀ b∈m.addrs a,∃ o,h.get? b=some o:=by
 intro b hb
 cases m with
 | list l=>obtain ⟨items,n,h1,h2⟩:=z; simp [MO.addrs] at hb; subst hb; exact ⟨_,h1⟩
 | obj ob=>simp [MO.addrs] at hb; subst hb; exact ⟨_,z.1⟩
 | inst dx C att body =>
  obtain ⟨d,es,n,h1,h2,h3,h4⟩:=z
  simp [MO.addrs] at hb
  rcases hb with rfl | rfl
  ·exact ⟨_,h1⟩
  ·exact ⟨_,h3⟩
theorem Sat.upd {D:Addr} {m m':MO} {zone':List (Addr × MO)} (S:Sat g F σ s) (U:ZAt D m m' σ.zone zone') (had:m'.addrs D=m.addrs D) {h':Heap}
  (hs:∀ b o,b∉m.addrs D→s.heap.get? b=some o→h'.get? b=some o) (hz:Kp s.heap h' σ.own σ.own→ZR h' σ.own D m') :
  Sat g F ⟨σ.loc,zone'⟩ { s with heap:=h' }∧Stp [] σ.own s (AS.own ⟨σ.loc,zone'⟩) { s with heap:=h' }:=by
 obtain ⟨pre,post,e1,e2⟩:=U.split
 have hown:AS.own ⟨σ.loc,zone'⟩=σ.own:=by unfold AS.own; rw [e1,e2]; simp [had]
 have hsub:∀ b∈m.addrs D,b∈σ.own:=fun b hb=>by unfold AS.own; rw [e1]; simp [hb]
 have hfr:∀ b∈F.fr,b∉m.addrs D:=fun b hb q=>(List.nodup_append.mp S.nd).2.2 b hb b (hsub b q) rfl
 have kp:Kp s.heap h' σ.own σ.own:=fun b o xs n e _ no=>⟨hs b o (fun q=>no (hsub b q)) e,no⟩
 have hz':=hz kp
 have hlo:∀ a∈m.addrs D,g.h₁.objs.size≤a:=fun a ha=>S.lo a (List.mem_append_right _ (hsub a ha))
 have kf:∀ b o,s.heap.get? b=some o→frameLike o→b∉σ.own→h'.get? b=some o:=fun b o e _ no=>hs b o (fun q=>no (hsub b q)) e
 have hL:F.env.locals∉m.addrs D:=hfr _ S.nin
 have nd:=(List.nodup_append.mp S.nd).2.1
 have apart:∀ z,z∈pre∨z∈post→∀ b∈z.2.addrs z.1,b∉m.addrs D:=by
  intro z hz b hb q
  unfold AS.own at nd
  rw [e1] at nd
  simp only [List.flatMap_append,List.flatMap_cons] at nd
  rcases hz with hz | hz
  ·exact (List.nodup_append.mp nd).2.2 b (List.mem_flatMap.mpr ⟨z,hz,hb⟩) b (List.mem_append_left _ q) rfl
  ·exact (List.nodup_append.mp (List.nodup_append.mp nd).2.1).2.2 b q b (List.mem_flatMap.mpr ⟨z,hz,hb⟩) rfl
 refine ⟨⟨OldT.exts S.old hlo hs,?_,S.os,S.bare,hown ▸ S.nd,hown ▸ S.lo,fun z hz1=>?_,fun a ha=>?_,?_,S.nin,fun x p e=>?_,S.cs,S.cl.to fun b o e hc=>kf b o e (.inr hc) (let ⟨v,d⟩:=hc; S.cell_off e d)⟩,?_⟩
 ·obtain ⟨mc,⟨o,es,ep,e,r⟩,h2⟩:=S.lim
  exact ⟨mc,⟨o,es,ep,hs _ _ (fun q=>Nat.lt_irrefl _ (Nat.lt_of_lt_of_le S.cs (hlo _ q))) e,r⟩,h2⟩
 ·rw [hown]
  have hz2:z∈zone':=hz1
  rw [e2] at hz2
  rcases List.mem_append.mp hz2 with hp | hp
  ·exact (S.zs z (by rw [e1]; exact List.mem_append_left _ hp)).mono kp fun b hb o e=>hs b o (apart z (.inl hp) b hb) e
  ·rcases List.mem_cons.mp hp with rfl | hp
   ·exact hz'
   ·exact (S.zs z (by rw [e1]; exact List.mem_append_right _ (List.mem_cons_of_mem _ hp))).mono kp fun b hb o e=>hs b o (apart z (.inr hp) b hb) e
 ·obtain ⟨o,e,fl⟩:=S.fr a ha
  exact ⟨o,hs a o (hfr a ha) e,fl⟩
 ·obtain ⟨mm,o,es,ep,e,r⟩:=S.ns
  exact ⟨mm,o,es,ep,hs _ _ hL e,r⟩
 ·obtain ⟨v,h1,h2⟩:=S.loc x p e
  rw [hown]
  refine ⟨v,?_,h2.mono kp⟩
  rcases h1 with ⟨a,mm,⟨o,es,ep,e,r⟩,c⟩ | ⟨a,c,o',h3,h4,h5⟩
  ·exact .inl ⟨a,mm,⟨o,es,ep,hs _ _ hL e,r⟩,c⟩
  ·exact .inr ⟨a,c,o',h3,hs _ _ (fun q=>S.cell_off h4 h5 (hsub _ q)) h4,h5⟩
 ·refine ⟨fun b o e _ no _=>hs b o (fun q=>no (hsub b q)) e,fun b o e=>?_,fun a ha=>.inl (hown ▸ ha),fun _ _ e=>e⟩
  by_cases hb:b∈m.addrs D
  ·exact hz'.at_addrs b (had ▸ hb)
  ·exact ⟨o,hs b o hb e⟩
theorem Sat.newList (S:Sat g F σ s) {ps:List PV} {vs:List Value} (h:VRs s.heap σ.own ps vs) :
  Sat g F ⟨σ.loc,(s.heap.objs.size,.list ps) :: σ.zone⟩ { s with heap:=s.heap.push (lstObj vs.toArray 0) }∧Stp [] σ.own s (AS.own ⟨σ.loc,(s.heap.objs.size,.list ps) :: σ.zone⟩) { s with heap:=s.heap.push (lstObj vs.toArray 0) }:=by
 have kk:∀ b o,s.heap.get? b=some o→(s.heap.push (lstObj vs.toArray 0)).get? b=some o:=fun b o e=>Heap.get?_push_of_some _ e
 have hown:AS.own ⟨σ.loc,(s.heap.objs.size,.list ps) :: σ.zone⟩=s.heap.objs.size :: σ.own:=rfl
 have kp:Kp s.heap (s.heap.push (lstObj vs.toArray 0)) σ.own (s.heap.objs.size :: σ.own):=fun b o xs n e _ no=>⟨kk b o e,fun q=>by
  rcases List.mem_cons.mp q with rfl | q
  ·exact Nat.lt_irrefl _ (Heap.lt_size e)
  ·exact no q⟩
 have S₁:=S.push (lstObj vs.toArray 0)
 refine ⟨⟨S₁.old,S₁.lim,S.os,S.bare,?_,fun a ha=>?_,fun z hz=>?_,S₁.fr,S₁.ns,S.nin,fun x p e=>?_,S.cs,S₁.cl⟩,⟨fun b o e _ _ _=>kk b o e,fun b o e=>⟨o,kk b o e⟩,fun a ha=>?_,fun _ _ e=>e⟩⟩
 ·rw [hown]
  obtain ⟨n1,n2,n3⟩:=List.nodup_append.mp S.nd
  refine List.nodup_append.mpr ⟨n1,List.nodup_cons.mpr ⟨fun q=>Nat.lt_irrefl _ (S.own_lt q),n2⟩,fun a ha b hb q=>?_⟩
  subst q
  rcases List.mem_cons.mp hb with rfl | hb
  ·exact Nat.lt_irrefl _ (S.fr_lt ha)
  ·exact n3 a ha a hb rfl
 ·rw [hown] at ha
  rcases List.mem_append.mp ha with h | h
  ·exact S.lo a (List.mem_append_left _ h)
  ·rcases List.mem_cons.mp h with rfl | h
   ·exact S.base_le
   ·exact S.lo a (List.mem_append_right _ h)
 ·rw [hown]
  rcases List.mem_cons.mp hz with rfl | hz
  ·exact ⟨_,_,Heap.get?_push_size _ rfl,h.mono kp⟩
  ·exact (S.zs z hz).mono kp fun b _ o e=>kk b o e
 ·rw [hown]
  obtain ⟨v,h1,h2⟩:=S.loc x p e
  exact ⟨v,h1.ext fun b o e _=>kk b o e,h2.mono kp⟩
 ·rw [hown] at ha
  rcases List.mem_cons.mp ha with rfl | ha
  ·exact .inr (get?_size _)
  ·exact .inl ha
theorem Kp.shrink {h:Heap} {own own':List Addr} (hs:∀ a∈own',a∈own):Kp h h own own':=fun b o xs n e _ no=>⟨e,fun q=>no (hs b q)⟩
theorem Sat.freeze {D:Addr} {ps:List PV} {z:List (Addr × MO)} {loc:List (Str × PV)} (S:Sat g F ⟨loc,(D,.list ps) :: z⟩ s) :
  Sat g F ⟨loc,z⟩ s∧Stp [] (AS.own ⟨loc,(D,.list ps) :: z⟩) s (AS.own ⟨loc,z⟩) s∧VR s.heap (AS.own ⟨loc,z⟩) (.lst ps) (.ref D):=by
 have hown:AS.own ⟨loc,(D,.list ps) :: z⟩=D :: AS.own ⟨loc,z⟩:=rfl
 have kp:Kp s.heap s.heap (AS.own ⟨loc,(D,.list ps) :: z⟩) (AS.own ⟨loc,z⟩):=Kp.shrink fun a ha=>by rw [hown]; exact List.mem_cons_of_mem _ ha
 obtain ⟨n1,n2,n3⟩:=List.nodup_append.mp S.nd
 rw [hown] at n2
 obtain ⟨n4,n5⟩:=List.nodup_cons.mp n2
 refine ⟨⟨S.old,S.lim,S.os,S.bare,List.nodup_append.mpr ⟨n1,n5,fun a ha b hb=>n3 a ha b (by rw [hown]; exact List.mem_cons_of_mem _ hb)⟩,fun a ha=>S.lo a (by
  rcases List.mem_append.mp ha with h | h
  ·exact List.mem_append_left _ h
  ·exact List.mem_append_right _ (by rw [hown]; exact List.mem_cons_of_mem _ h)),fun y hy=>(S.zs y (List.mem_cons_of_mem _ hy)).mono kp fun _ _ _ e=>e,S.fr,S.ns,S.nin,fun x p e=>?_,S.cs,S.cl⟩,
  ⟨fun _ _ e _ _ _=>e,fun _ o e=>⟨o,e⟩,fun a ha=>.inl (by rw [hown]; exact List.mem_cons_of_mem _ ha),fun _ _ e=>e⟩,?_⟩
 ·obtain ⟨v,h1,h2⟩:=S.loc x p e
  exact ⟨v,h1,h2.mono kp⟩
 ·obtain ⟨items,n,h1,h2⟩:=S.zs (D,.list ps) List.mem_cons_self
  exact .lst n4 h1 (h2.mono kp)
theorem EV_List_new {es:List Expr} {pos:Pos} {P:PV→AS→Prop} (h:EVs g A F es σ fun ps σ₁=>ps.length≤1000∧∀ D,P (.raw (.ref D)) ⟨σ₁.loc,(D,.list ps) :: σ₁.zone⟩):EV g A F (.List es pos) σ P:=by
 intro s S Q E k
 refine List_ (h pos s S _ E fun vs ps σ₁ s₁ h₁ S₁ hvs st₁=>?_)
 obtain ⟨S₂,st₂⟩:=S₁.newList hvs
 exact wpAny_newList (k _ _ _ _ (h₁.2 _) S₂ (.raw _) (st₁.trans st₂)) (by have:=hvs.length; have:=h₁.1; unfold sizeLine; omega)
theorem EV_freeze {e:Expr} {P:PV→AS→Prop} (h:EV g A F e σ fun p σ₁=>∃ D ps z,p=.raw (.ref D)∧σ₁.zone=(D,.list ps) :: z∧P (.lst ps) ⟨σ₁.loc,z⟩):EV g A F e σ P:=by
 intro s S Q E k
 refine h s S Q E fun v p σ₁ s₁ h₁ S₁ hv st₁=>?_
 obtain ⟨D,ps,z,rfl,hz,hP⟩:=h₁
 cases hv
 obtain ⟨loc,zone⟩:=σ₁
 dsimp only at hz
 subst hz
 obtain ⟨S₂,st₂,hv₂⟩:=S₁.freeze
 exact k _ _ _ _ hP S₂ hv₂ (st₁.trans st₂)
theorem append_zone {D:Addr} {ps:List PV} {zone':List (Addr × MO)} {p:PV} {v:Value} {Q:Value→Shared→Prop} {E:Value→Shared→Prop} (S:Sat g F σ s) (U:ZAt D (.list ps) (.list (ps++[p])) σ.zone zone') (hv:VR s.heap σ.own p v) (hlen:ps.length≤1000000)
  (k:∀ s',Sat g F ⟨σ.loc,zone'⟩ s'→Stp [] σ.own s (AS.own ⟨σ.loc,zone'⟩) s'→Q .none s'):wpAny (model g.prog g.w) A (call (.builtin "list.append") [.ref D,v]) Q E s:=by
 obtain ⟨pre,post,e1,e2⟩:=U.split
 obtain ⟨items,n,h1,h2⟩:=S.zs (D,.list ps) (by rw [e1]; simp)
 have hl:=h2.length
 simp only [Array.length_toList] at hl
 have h1':∃ o,s.heap.get? D=some o∧o.cls=.type "list"∧o.data=.seq items n∧o=lstObj items n:=⟨_,h1,rfl,rfl,rfl⟩
 refine wpAny_call_entry slot_list_append (show s.TypeIs (.ref D) "list" from ⟨_,h1,rfl⟩) entry_list_append ?_ (args_list_append _ _)
 show wpAny _ _ (updateSeq D (·.push v)>>=fun _=>ret .none) _ _ s
 refine wpAny_bind ?_
 refine wpAny_updateSeq h1 rfl (wpAny_pure ⟨.none,rfl,?_⟩) (by have:sizeLine=16777216:=rfl; omega)
 have hs:Heap.SameBut D s.heap (s.heap.update D (Obj.mapSeq fun x=>x.push v)):=.update ..
 have hg:(s.heap.update D (Obj.mapSeq fun x=>x.push v)).get? D=some (lstObj (items.push v) (n + 1)):=by
  have:=Heap.get?_update_self (Obj.mapSeq fun x=>x.push v) h1 (by simp [Obj.mapSeq,Obj.isFreed])
  rw [this]
  simp [Obj.mapSeq]
 obtain ⟨S',st⟩:=S.upd U rfl (h':=s.heap.update D (Obj.mapSeq fun x=>x.push v)) (fun b o hb e=>hs.extBut b o (by simpa [MO.addrs] using hb) e) fun kp=>⟨items.push v,n + 1,hg,by
  rw [Array.toList_push]; exact (h2.mono kp).append (.cons (hv.mono kp) .nil)⟩
 exact k _ S' st
end
end Mine
end SM6
section SM7
open PySem PySem.Calls PyProof.Rows
namespace Mine
def SRC (g:Gl) (A:Around) (F:Fm) (iter:Expr) (σ:AS) (P:List PV→AS→Prop):Prop :=
 ∀ s,Sat g F σ s→∀ (R:Value→Shared→Prop) (E:Value→Shared→Prop),
  (∀ (K:IterK g A) it ads xs σ' s',ads.head?=some it→P xs σ'→Sat g F σ' s'→Stp [] σ.own s σ'.own s'→(∀ a∈ads,s.heap.get? a=none)→Off g F σ'.own ads→K.Rel s'.heap σ'.own ads xs→R (.ref it) s') →
  wpAny (model g.prog g.w) A (eval iter F.env) (fun x s₁=>wpAny (model g.prog g.w) A (pyIter x) R E s₁) E s
def TST (g:Gl) (A:Around) (F:Fm) (ifs:List Expr) (σ:AS) (P:Bool→AS→Prop):Prop :=
 J g A F [] EQ (forIn ifs true fun c r=>if r=true then do let ok ← isTrue c F.env (eval c F.env); pure (ForInStep.yield ok) else pure (ForInStep.yield r)) σ P
def CompP (g:Gl) (A:Around) (F:Fm) (D:Addr) (elt target:Expr) (ifs:List Expr):List PV→List PV→AS→(List PV→List (Addr × MO)→Prop)→Prop
 | [],acc,σ,P=>∃ z,σ.zone=(D,.list acc) :: z∧P acc z
 | x :: xs,acc,σ,P=>AS1 g A F target x σ fun σ₁=>TST g A F ifs σ₁ fun ok σ₂=>if ok=true then
   EV g A F elt σ₂ fun p σ₃=>∃ z,σ₃.zone=(D,.list acc) :: z∧acc.length≤1000000∧CompP g A F D elt target ifs xs (acc++[p]) ⟨σ₃.loc,(D,.list (acc++[p])) :: z⟩ P
  else CompP g A F D elt target ifs xs acc σ₂ P
def cFm (scope:Scope) (cl:List (Str × Addr)) (C:Addr) (F:Fm):Fm:=⟨compEnvC scope cl C F.env,[C]⟩
def capLoc (caps:List Str) (loc:List (Str × PV)):List (Str × PV):=caps.filterMap fun x=>(loc.lookup x).map fun p=>(x,p)
theorem capLoc_lookup {caps:List Str} {loc:List (Str × PV)} {x:Str} {p:PV} (e:(capLoc caps loc).lookup x=some p):x∈caps∧loc.lookup x=some p:=by
 induction caps with
 | nil=>simp [capLoc] at e
 | cons y r ih =>
  unfold capLoc at e
  rw [List.filterMap_cons] at e
  cases q:loc.lookup y with
  | none =>
   rw [q] at e
   obtain ⟨a,b⟩:=ih e
   exact ⟨List.mem_cons_of_mem _ a,b⟩
  | some p' =>
   rw [q] at e
   simp only [Option.map_some,List.lookup_cons] at e
   cases q2:x == y with
   | true =>
    rw [q2] at e
    have:x=y:=eq_of_beq q2
    subst this
    cases e
    exact ⟨List.mem_cons_self,q⟩
   | false =>
    rw [q2] at e
    obtain ⟨a,b⟩:=ih e
    exact ⟨List.mem_cons_of_mem _ a,b⟩
section
variable {g:Gl} {A:Around} {F:Fm} {σ:AS} {s:Shared}
theorem SRC_of {iter:Expr} {P:List PV→AS→Prop} (h:EV g A F iter σ fun p σ₁=>∃ xs,IT g A F p xs σ₁∧P xs σ₁):SRC g A F iter σ P:=by
 intro s S R E k
 refine h s S _ E fun v p σ₁ s₁ h₁ S₁ hv st₁=>?_
 obtain ⟨xs,hi,hP⟩:=h₁
 refine hi s₁ v S₁ hv _ E fun K it ads s₂ hd S₂ st₂ ha off r=>?_
 refine k K it ads xs σ₁ s₂ hd hP S₂ (st₁.trans st₂) (fun a ha'=>?_) off r
 have:=ha a ha'
 cases q:s.heap.get? a with
 | none=>rfl
 | some o=>obtain ⟨o',e'⟩:=st₁.there a o q; rw [e'] at this; cases this
theorem EX_ForS {t iter:Expr} {body orelse:List Stmt} {pos:Pos} {P:Fl→AS→Prop} (h:SRC g A F iter σ fun xs σ₁=>ForP g A F t body orelse xs σ₁ P)
  (hs:∀ x,foldedSetIterable iter F.env x=pure x:=by intro _; with_unfolding_all rfl):EX g A F (.For t iter body orelse pos) σ P:=by
 intro s S Q E k
 refine wpAny_For (h s S _ E fun K it ads xs σ₁ s₁ hd h₁ S₁ st₁ ha off r=>?_) hs
 exact for_run hd ha (fun f fl σ' s' h' S' hr st'=>k f fl σ' s' h' S' hr st') S₁ st₁.up off r h₁
theorem TST_nil {P:Bool→AS→Prop} (h:P true σ):TST g A F [] σ P:=fun s S Q E k=>wpAny_tests_nil (k _ _ σ s h S rfl .refl)
theorem TST_one {c:Expr} {P:Bool→AS→Prop} (h:TR g A F c σ P):TST g A F [c] σ P:=fun s S Q E k=>wpAny_tests_one (h s S Q E k)
theorem Stp.trans' {fr fr':List Addr} {o₁ o₂ o₃:List Addr} {s₁ s₂ s₃:Shared} (x:Stp fr o₁ s₁ o₂ s₂) (y:Stp fr' o₂ s₂ o₃ s₃) (hF:∀ b∈fr',b∈fr∨s₁.heap.get? b=none):Stp fr o₁ s₁ o₃ s₃:=by
 refine ⟨fun b o e nf no hc=>?_,fun b o e=>let ⟨o',e'⟩:=x.there b o e; y.there b o' e',fun a ha=>?_,fun i z e=>y.gens i z (x.gens i z e)⟩
 ·refine y.keep b o (x.keep b o e nf no hc) (fun hb=>?_) (fun hb=>?_) hc
  ·rcases hF b hb with q | q
   ·exact nf q
   ·rw [e] at q; cases q
  ·rcases x.fresh b hb with q | q
   ·exact no q
   ·rw [e] at q; cases q
 ·rcases y.fresh a ha with q | q
  ·exact x.fresh a q
  ·refine .inr ?_
   cases e:s₁.heap.get? a with
   | none=>rfl
   | some o =>
    obtain ⟨o',e'⟩:=x.there a o e
    rw [e'] at q; cases q
def KP (fr own own':List Addr) (h h':Heap):Prop:=∀ b o,h.get? b=some o→((∃ xs n,o.data=.seq xs n)∨frameLike o)→b∉own→b∉fr→h'.get? b=some o∧b∉own'
theorem KP.refl {fr own:List Addr} {h:Heap}:KP fr own own h h:=fun _ _ e _ n _=>⟨e,n⟩
theorem KP.trans {fr o₁ o₂ o₃:List Addr} {h₁ h₂ h₃:Heap} (x:KP fr o₁ o₂ h₁ h₂) (y:KP fr o₂ o₃ h₂ h₃):KP fr o₁ o₃ h₁ h₃:=fun b o e d n1 n2=>let ⟨e',n'⟩:=x b o e d n1 n2; y b o e' d n' n2
theorem KP.of_stp {fr own own':List Addr} {s':Shared} (st:Stp fr own s own' s'):KP fr own own' s.heap s'.heap:=fun b o e d no nf=>by
 have hh:hard o:=by
  rcases d with ⟨xs,n,d⟩ | d
  ·exact .inr fun vs q=>by rw [d] at q; cases q
  ·exact d.hard
 refine ⟨st.keep b o e nf no hh,fun q=>?_⟩
 rcases st.fresh b q with q | q
 ·exact no q
 ·rw [e] at q; cases q
theorem KP.offs {K:IterK g A} {fr own own' own₂:List Addr} {sb s':Shared} {ads:List Addr} {xs:List PV} (x:KP fr own own' sb.heap s.heap) (r:K.Rel s.heap own₂ ads xs) (hs:∀ b o,s.heap.get? b=some o→b∉ads→s'.heap.get? b=some o):KP fr own own' sb.heap s'.heap:=fun b o e d n1 n2=>by
 obtain ⟨e',n'⟩:=x b o e d n1 n2
 refine ⟨hs b o e' fun q=>?_,n'⟩
 obtain ⟨o',e2,_,nf,nq⟩:=K.hard r b q
 rw [e'] at e2; cases e2
 rcases d with ⟨xs,n,d⟩ | d
 ·exact nq xs n d
 ·exact nf d
theorem KP.kp {fr own own':List Addr} {h h':Heap} (x:KP fr own own' h h') (hf:∀ a∈fr,∀ o,h.get? a=some o→∀ xs n,o.data≠.seq xs n):Kp h h' own own':=fun b o xs n e d no=>x b o e (.inl ⟨xs,n,d⟩) no fun q=>hf b q o e xs n d
theorem Sat.back2 {F':Fm} {σ':AS} {s':Shared} (S:Sat g F σ s) (S':Sat g F' σ' s') (kp:KP F'.fr σ.own σ'.own s.heap s'.heap) (hf:∀ a∈F.fr,a∉F'.fr) (hn:∀ a∈F'.fr,∀ o,s.heap.get? a=some o→(∀ xs n,o.data≠.seq xs n)∧∀ v,o.data≠.cell v):Sat g F ⟨σ.loc,σ'.zone⟩ s':=by
 have hL:F.env.locals∉σ.own:=fun h=>(List.nodup_append.mp S.nd).2.2 _ S.nin _ h rfl
 have hfo:∀ a∈F.fr,a∉σ.own:=fun a ha h=>(List.nodup_append.mp S.nd).2.2 _ ha _ h rfl
 have fk:∀ a∈F.fr,∃ o,frameLike o∧s'.heap.get? a=some o∧a∉σ'.own∧s.heap.get? a=some o:=fun a ha=>by
  obtain ⟨o,e,fl⟩:=S.fr a ha
  obtain ⟨e',n'⟩:=kp a o e (.inr fl) (hfo a ha) (hf a ha)
  exact ⟨o,fl,e',n',e⟩
 have kd:Kp s.heap s'.heap σ.own σ'.own:=kp.kp fun a ha o e=>(hn a ha o e).1
 refine ⟨S'.old,S'.lim,S'.os,S'.bare,?_,fun a ha=>?_,S'.zs,fun a ha=>?_,?_,S.nin,fun x p e=>?_,S.cs,fun x c hx hc hf' hl=>by
  obtain ⟨o,e,ho⟩:=S.cl x c hx hc hf' hl
  obtain ⟨o',fl,e',_,e2⟩:=fk c hf'
  rw [e] at e2; cases e2
  exact ⟨o,e',ho⟩⟩
 ·refine List.nodup_append.mpr ⟨(List.nodup_append.mp S.nd).1,(List.nodup_append.mp S'.nd).2.1,fun a ha b hb q=>?_⟩
  subst q
  obtain ⟨_,_,_,n,_⟩:=fk a ha
  exact n hb
 ·rcases List.mem_append.mp ha with h | h
  ·exact S.lo a (List.mem_append_left _ h)
  ·exact S'.lo a (List.mem_append_right _ h)
 ·obtain ⟨o,fl,e,_⟩:=fk a ha
  exact ⟨o,e,fl⟩
 ·obtain ⟨m,o,es,ep,e,d,r⟩:=S.ns
  obtain ⟨o',_,e',_,e''⟩:=fk _ S.nin
  rw [e] at e''; cases e''
  exact ⟨m,o,es,ep,e',d,r⟩
 ·obtain ⟨v,h1,h2⟩:=S.loc x p e
  refine ⟨v,?_,h2.mono kd⟩
  rcases h1 with ⟨a,m,⟨o,es,ep,e,d,r⟩,c⟩ | ⟨a,c,o',h3,h4,h5⟩
  ·obtain ⟨o',_,e',_,e''⟩:=fk _ S.nin
   rw [e] at e''; cases e''
   exact .inl ⟨a,m,⟨o,es,ep,e',d,r⟩,c⟩
  ·exact .inr ⟨a,c,o',h3,(kp c o' h4 (.inr (.inr ⟨_,h5⟩)) (S.cell_off h4 h5) fun q=>(hn c q o' h4).2 _ h5).1,h5⟩
theorem comp_run {fr₀:List Addr} {K:IterK g A} {D:Addr} {elt target iter:Expr} {ifs:List Expr} {scope:Scope} {pos:Pos} {P:List PV→List (Addr × MO)→Prop} {own₀ ownb:List Addr} {s₀ sb:Shared} {R:Result→Shared→Prop} {ads:List Addr} {it:Addr} (hd:ads.head?=some it)
  (ha:∀ a∈ads,s₀.heap.get? a=none) (hF:∀ b∈F.fr,b∈fr₀∨s₀.heap.get? b=none)
  (k:∀ acc loc z s',P acc z→Sat g F ⟨loc,(D,.list acc) :: z⟩ s'→Stp fr₀ own₀ s₀ (AS.own ⟨loc,(D,.list acc) :: z⟩) s'→KP F.fr ownb (AS.own ⟨loc,(D,.list acc) :: z⟩) sb.heap s'.heap→R (.ok .next) s')
  {xs acc:List PV} (S:Sat g F σ s) (st:Stp fr₀ own₀ s₀ σ.own s) (fk:KP F.fr ownb σ.own sb.heap s.heap) (off:Off g F σ.own ads) (r:K.Rel s.heap σ.own ads xs) (h:CompP g A F D elt target ifs xs acc σ P) :
  codeAny (model g.prog g.w) A (.compLoop (.ListComp elt [⟨target,iter,ifs,0⟩] scope pos) 0 (.ref it) (.ref D) F.env) R s:=by
 refine codeAny_loop rfl (fun n s=>∃ xs acc σ,n=xs.length∧Sat g F σ s∧Stp fr₀ own₀ s₀ σ.own s∧KP F.fr ownb σ.own sb.heap s.heap∧Off g F σ.own ads∧K.Rel s.heap σ.own ads xs∧CompP g A F D elt target ifs xs acc σ P) ?_ xs.length ⟨xs,acc,σ,rfl,S,st,fk,off,r,h⟩
 clear S st off r h fk
 rintro n s ⟨xs,acc,σ,rfl,S,st,fk,off,r,h⟩
 show wpAny _ A ((compTurn (.ListComp elt [⟨target,iter,ifs,0⟩] scope pos) 0 (.ref it) (.ref D) F.env).onRaise (fun x=>do noteFrame x F.env; theTreesLotGoes x)) _ _ s
 refine wpAny_noted ?_
 rw [compTurn_list]
 refine wpAny_bind (wpAny_standAt (wpAny_bind ?_))
 cases xs with
 | nil =>
  refine K.stop hd S off r fun s' hs hg S'=>?_
  obtain ⟨z,hz,hP⟩:=h
  obtain ⟨loc,zone⟩:=σ
  dsimp only at hz
  subst hz
  exact wpAny_pure (k acc loc z s' hP S' (st.offs ha hs hg) (fk.offs r hs))
 | cons x xs =>
  refine K.next hd S off r fun v s₁ hs hg S₁ hv r₁=>?_
  have st₁:=st.offs ha hs hg
  have fk₁:=fk.offs r hs
  refine wpAny_bind (K.letGo hd S₁ off r₁ fun s₂ hs₂ hg₂ S₂ r₂=>?_)
  have st₂:=st₁.offs ha hs₂ hg₂
  have fk₂:=fk₁.offs r₁ hs₂
  have kp₁₂:Kp s₁.heap s₂.heap σ.own σ.own:=fun b o xs n e d no=>⟨hs₂ b o e (fun q=>by
   obtain ⟨o',e',_,_,hq⟩:=K.hard r₁ b q
   rw [e] at e'; cases e'
   exact hq xs n d),no⟩
  refine wpAny_bind (h s₂ v S₂ (hv.mono kp₁₂) _ _ fun σ₃ s₃ h₃ S₃ st₃=>?_)
  obtain ⟨off₃,r₃⟩:=K.after S₂ st₃ off r₂
  refine wpAny_bind (h₃ s₃ S₃ _ _ fun ok ok' σ₄ s₄ h₄ S₄ hb st₄=>?_)
  cases hb
  obtain ⟨off₄,r₄⟩:=K.after S₃ st₄ off₃ r₃
  have stt:=(st₂.trans' st₃ hF).trans' (st₄.up (fr:=F.fr)) hF
  have fk₄:=(fk₂.trans (.of_stp st₃)).trans (.of_stp (st₄.up (fr:=F.fr)))
  cases ok with
  | false=>exact wpAny_pure ⟨rfl,xs.length,Nat.lt_succ_self _,xs,acc,σ₄,rfl,S₄,stt,fk₄,off₄,r₄,h₄⟩
  | true =>
   refine wpAny_bind (wpAny_bind (h₄ s₄ S₄ _ _ fun v p σ₅ s₅ h₅ S₅ hv st₅=>?_))
   obtain ⟨off₅,r₅⟩:=K.after S₄ st₅ off₄ r₄
   obtain ⟨z,hz,hlen,h₆⟩:=h₅
   have U:ZAt D (.list acc) (.list (acc++[p])) σ₅.zone ((D,.list (acc++[p])) :: z):=by rw [hz]; exact .head
   refine wpAny_bind (append_zone S₅ U hv hlen fun s₆ S₆ st₆=>?_)
   obtain ⟨off₆,r₆⟩:=K.after S₅ st₆ off₅ r₅
   exact wpAny_pure (wpAny_pure ⟨rfl,xs.length,Nat.lt_succ_self _,xs,acc++[p],⟨σ₅.loc,(D,.list (acc++[p])) :: z⟩,rfl,S₆,(stt.trans' (st₅.up (fr:=F.fr)) hF).trans' (st₆.up (fr:=F.fr)) hF,(fk₄.trans (.of_stp (st₅.up (fr:=F.fr)))).trans (.of_stp (st₆.up (fr:=F.fr))),off₆,r₆,h₆⟩)
theorem Sat.dictOff {fr own₀:List Addr} {s₀:Shared} {C:Addr} {h':Heap} (S:Sat g F σ s) (hl:g.h₁.objs.size≤C) (hf:C∉F.fr) (ho:C∉σ.own) (hs:Heap.SameBut C s.heap h') (hn:∃ m,s.heap.Ns C m) (st:Stp fr own₀ s₀ σ.own s) (hC:s₀.heap.get? C=none) :
  Sat g F σ { s with heap:=h' }∧Stp fr own₀ s₀ σ.own { s with heap:=h' }:=by
 refine ⟨?_,st.off hC hs.extBut⟩
 obtain ⟨m,o,es,ep,e,d,_⟩:=hn
 have hd:∀ o',s.heap.get? C=some o'→∃ es n,o'.data=.dict es n:=fun o' e'=>by rw [e] at e'; cases e'; exact ⟨es,ep,d⟩
 have kp:Kp s.heap h' σ.own σ.own:=fun b o' xs n e' d' no=>⟨hs.extBut b o' (fun q=>by subst q; obtain ⟨_,_,q2⟩:=hd _ e'; rw [d'] at q2; cases q2) e',no⟩
 have ko:∀ b o',s.heap.get? b=some o'→b≠C→h'.get? b=some o':=fun b o' e' nb=>hs.extBut b o' nb e'
 refine ⟨OldT.ext S.old hl hs.extBut,NoLimit.ext S.lim (Nat.ne_of_lt (Nat.lt_of_lt_of_le S.cs hl)) hs.extBut,S.os,S.bare,S.nd,S.lo,fun z hz=>(S.zs z hz).mono kp fun b hb o' e'=>ko b o' e' (fun q=>ho (q ▸ List.mem_flatMap.mpr ⟨z,hz,hb⟩)),fun a ha=>?_,?_,S.nin,fun x p ex=>?_,S.cs,S.cl.to fun b o' e' hc=>ko b o' e' (fun q=>by subst q; obtain ⟨_,_,q2⟩:=hd _ e'; obtain ⟨v,hv⟩:=hc; rw [hv] at q2; cases q2)⟩
 ·obtain ⟨o',e',fl⟩:=S.fr a ha
  exact ⟨o',ko a o' e' (fun q=>hf (q ▸ ha)),fl⟩
 ·obtain ⟨mm,o',es',ep',e',r⟩:=S.ns
  exact ⟨mm,o',es',ep',ko _ _ e' (fun q=>hf (q ▸ S.nin)),r⟩
 ·obtain ⟨v,h1,h2⟩:=S.loc x p ex
  refine ⟨v,?_,h2.mono kp⟩
  rcases h1 with ⟨a,mm,⟨o',es',ep',e',r⟩,c⟩ | ⟨a,c,o',h3,h4,h5⟩
  ·exact .inl ⟨a,mm,⟨o',es',ep',ko _ _ e' (fun q=>hf (q ▸ S.nin)),r⟩,c⟩
  ·exact .inr ⟨a,c,o',h3,ko _ _ h4 (fun q=>by subst q; obtain ⟨_,_,q2⟩:=hd _ h4; rw [h5] at q2; cases q2),h5⟩
structure CompOk (F:Fm) (scope:Scope) (cl:List (Str × Addr)) (caps:List Str):Prop where
 clos:closureFor scope F.env=pure cl
 kind:scope.kind=.function
 names:(scope.names.all fun x=>x.2 != .local || scope.names.lookup x.1 == some .local)=true
 cell:(scope.names.all fun x=>x.2 != .cell)=true
 caps:∀ x∈caps,F.env.kindOf x=some .cell∧(relabel scope F.env).names.lookup x=some .cell∧cl.lookup x=F.env.cells.lookup x
theorem comp_all {elt target iter:Expr} {ifs:List Expr} {scope:Scope} {cl:List (Str × Addr)} {caps:List Str} {pos:Pos} {P:PV→AS→Prop} {use:Option (Value→Sem Unit)} {Q:Value→Shared→Prop} {E:Value→Shared→Prop}
  (ok:CompOk F scope cl caps) (h:SRC g A F iter σ fun xs σ₁=>∀ D C,CompP g A (cFm scope cl C F) D elt target ifs xs [] ⟨capLoc caps σ₁.loc,(D,.list []) :: σ₁.zone⟩ fun acc z=>P (.lst acc) ⟨σ₁.loc,z⟩)
  (hs:∀ x,foldedSetIterable iter F.env x=pure x) (S:Sat g F σ s)
  (k:∀ C D p σ' s',P p σ'→Sat g F σ' s'→VR s'.heap σ'.own p (.ref D)→Stp [] σ.own s σ'.own s'→s.heap.get? C=none→C∉F.fr→C∉σ'.own→g.h₁.objs.size≤C→(∃ m,s'.heap.Ns C m) →
   compPost (model g.prog g.w) A E use Q (.ref D) C (.ok .next) s') :
  wpAny (model g.prog g.w) A (comprehension (.ListComp elt [⟨target,iter,ifs,0⟩] scope pos) scope F.env (firstIterPos [⟨target,iter,ifs,0⟩] pos) (newList []) false (firstIter [⟨target,iter,ifs,0⟩] F.env) use) Q E s:=by
 have hnames:∀ x∈scope.names,x.2=.local→scope.names.lookup x.1=some .local:=fun x hx hl=>by
  have:=List.all_eq_true.mp ok.names x hx
  rw [hl] at this
  simpa using this
 have hcell:∀ x∈scope.names,x.2≠.cell:=fun x hx=>by simpa using List.all_eq_true.mp ok.cell x hx
 refine wpAny_comprehension_free (g:=⟨target,iter,ifs,0⟩) (gs:=[]) rfl hs ok.clos ok.kind hnames ?_
 refine h s S _ E fun K it ads xs σ₁ s₁ hd h₁ S₁ st₁ ha off r=>?_
 obtain ⟨S₂,st₂⟩:=S₁.newList (ps:=[]) (vs:=[]) .nil
 refine wpAny_newList ?_ (by simp)
 generalize hD:s₁.heap.objs.size=D at S₂ st₂ ⊢
 generalize hs2:({ s₁ with heap:=s₁.heap.push (lstObj (List.toArray []) 0) }:Shared)=s₂ at S₂ st₂
 refine wpAny_newFunctionEnv hcell (by intro y hy; simp at hy) (fun h₃ hns hsb=>?_) ok.kind
 have hk3:∀ b o,s₂.heap.get? b=some o→h₃.get? b=some o:=fun b o e=>hsb.extBut b o (Nat.ne_of_lt (Heap.lt_size e)) (Heap.get?_push_of_some _ e)
 generalize hC:s₂.heap.objs.size=C at hns hsb ⊢
 have hCn:s₂.heap.get? C=none:=hC ▸ get?_size _
 have hCf:C∉F.fr:=fun q=>by rw [← hC] at q; exact Nat.lt_irrefl _ (S₂.fr_lt q)
 have hCo:C∉(AS.own ⟨σ₁.loc,(D,.list []) :: σ₁.zone⟩):=fun q=>by rw [← hC] at q; exact Nat.lt_irrefl _ (S₂.own_lt q)
 have hCl:g.h₁.objs.size≤C:=hC ▸ S₂.base_le
 have kp:Kp s₂.heap h₃ (AS.own ⟨σ₁.loc,(D,.list []) :: σ₁.zone⟩) (AS.own ⟨σ₁.loc,(D,.list []) :: σ₁.zone⟩):=fun b o xs n e _ no=>⟨hk3 b o e,no⟩
 have hCobj:∃ o,h₃.get? C=some o∧frameLike o:=by obtain ⟨o,es,ep,e,d,_⟩:=hns; exact ⟨o,e,.inl ⟨es,ep,d⟩⟩
 have S₃:Sat g (cFm scope cl C F) ⟨capLoc caps σ₁.loc,(D,.list []) :: σ₁.zone⟩ { s₂ with heap:=h₃,toks:=s₂.toks + 0 }:=by
  refine ⟨S₂.old.step_keeps hk3,S₂.lim.keeps hk3,S₂.os,S₂.bare,?_,fun a ha=>?_,fun z hz=>(S₂.zs z hz).mono kp fun b _ o e=>hk3 b o e,fun a ha=>?_,⟨_,hns⟩,by simp [cFm,compEnvC],fun x p e=>?_,S₂.cs,fun x c _ _ hf hl=>(hl (List.mem_singleton.mp hf)).elim⟩
  ·exact List.nodup_cons.mpr ⟨hCo,(List.nodup_append.mp S₂.nd).2.1⟩
  ·rcases List.mem_cons.mp ha with rfl | ha
   ·exact hCl
   ·exact S₂.lo a (List.mem_append_right _ ha)
  ·simp [cFm] at ha; subst ha; exact hCobj
  ·obtain ⟨hx,e'⟩:=capLoc_lookup e
   obtain ⟨c1,c2,c3⟩:=ok.caps x hx
   obtain ⟨v,hv1,hv2⟩:=S₂.loc x p e'
   refine ⟨v,?_,hv2.mono kp⟩
   rcases hv1 with ⟨q,_⟩ | ⟨_,c,o,q1,q2,q3⟩
   ·rw [c1] at q; cases q
   ·exact .inr ⟨.inl c2,c,o,by show cl.lookup x=_; rw [c3]; exact q1,hk3 _ _ q2,q3⟩
 have hk12:∀ b o,s₁.heap.get? b=some o→s₂.heap.get? b=some o:=fun b o e=>by rw [← hs2]; exact Heap.get?_push_of_some _ e
 have kp12:Kp s₁.heap s₂.heap σ₁.own (AS.own ⟨σ₁.loc,(D,.list []) :: σ₁.zone⟩):=S₁.kp st₂
 have kp13:Kp s₁.heap h₃ σ₁.own (AS.own ⟨σ₁.loc,(D,.list []) :: σ₁.zone⟩):=fun b o xs n e d no=>by
  obtain ⟨a1,a2⟩:=kp12 b o xs n e d no
  exact kp b o xs n a1 d a2
 have r₃:K.Rel h₃ (AS.own ⟨capLoc caps σ₁.loc,(D,.list []) :: σ₁.zone⟩) ads xs:=K.stable r kp13 fun a _ o e=>hk3 a o (hk12 a o e)
 have off₃:Off g (cFm scope cl C F) (AS.own ⟨capLoc caps σ₁.loc,(D,.list []) :: σ₁.zone⟩) ads:=fun a ha'=>by
  obtain ⟨o,e,_⟩:=K.hard r a ha'
  refine ⟨fun q=>?_,fun q=>?_,(off a ha').2.2⟩
  ·simp [cFm] at q; subst q
   rw [hk12 _ _ e] at hCn; cases hCn
  ·have hD':a=D∨a∈σ₁.own:=by
    have:AS.own ⟨capLoc caps σ₁.loc,(D,.list []) :: σ₁.zone⟩=D :: σ₁.own:=rfl
    rw [this] at q
    exact List.mem_cons.mp q
   rcases hD' with rfl | q
   ·rw [← hD,get?_size] at e; cases e
   ·exact (off a ha').2.1 q
 have st3:Stp [] (AS.own ⟨σ₁.loc,(D,.list []) :: σ₁.zone⟩) s₂ (AS.own ⟨σ₁.loc,(D,.list []) :: σ₁.zone⟩) { s₂ with heap:=h₃,toks:=s₂.toks + 0 } :=
  ⟨fun b o e _ _ _=>hk3 b o e,fun b o e=>⟨o,hk3 b o e⟩,fun _ h=>.inl h,fun _ _ e=>e⟩
 have stF:Stp [] σ.own s (AS.own ⟨σ₁.loc,(D,.list []) :: σ₁.zone⟩) { s₂ with heap:=h₃,toks:=s₂.toks + 0 }:=(st₁.trans st₂).trans st3
 have hCs:s.heap.get? C=none:=by
  cases q:s.heap.get? C with
  | none=>rfl
  | some o=>obtain ⟨o',e'⟩:=(st₁.trans st₂).there C o q; rw [e'] at hCn; cases hCn
 have hCs1:s₁.heap.get? C=none:=by
  cases q:s₁.heap.get? C with
  | none=>rfl
  | some o=>rw [hk12 _ _ q] at hCn; cases hCn
 have S₂₃:Sat g F ⟨σ₁.loc,(D,.list []) :: σ₁.zone⟩ { s₂ with heap:=h₃,toks:=s₂.toks + 0 } :=
  S₂.ext (a:=C) hCl (fun b o _ e=>hk3 b o e) hCf hCo fun o e=>by rw [hCn] at e; cases e
 have hloop:∀ s':Shared,s'={ s₂ with heap:=h₃,toks:=s₂.toks + 0 }→codeAny (model g.prog g.w) A (.compLoop (.ListComp elt [⟨target,iter,ifs,0⟩] scope pos) 0 (.ref it) (.ref D) (cFm scope cl C F).env) (compPost (model g.prog g.w) A E use Q (.ref D) C) s':=by
  rintro _ rfl
  refine comp_run (fr₀:=[]) (K:=K) (own₀:=σ.own) (s₀:=s) (ownb:=AS.own ⟨σ₁.loc,(D,.list []) :: σ₁.zone⟩) (sb:={ s₂ with heap:=h₃,toks:=s₂.toks + 0 }) hd ha (fun b hb=>?_) (fun acc loc z s' hP S' st' fk'=>?_) S₃ stF .refl off₃ r₃ (h₁ D C)
  ·simp [cFm] at hb; subst hb; exact .inr hCs
  ·have Sb:Sat g F ⟨σ₁.loc,(D,.list acc) :: z⟩ s':=S₂₃.back2 S' fk' (fun a ha' q=>by simp [cFm] at q; subst q; exact hCf ha') (fun a ha' o e=>by
    simp [cFm] at ha'; subst ha'
    obtain ⟨o',es,ep,e',d,_⟩:=hns
    have e2:h₃.get? a=some o:=e
    rw [e2] at e'; cases e'
    exact ⟨fun xs n q=>(by rw [d] at q; cases q),fun v q=>(by rw [d] at q; cases q)⟩)
   obtain ⟨Sf,stf,hv⟩:=Sb.freeze
   refine k C D _ _ s' hP Sf hv (st'.trans stf) hCs hCf (fun q=>?_) hCl S'.ns
   have:C∈AS.own ⟨loc,(D,.list acc) :: z⟩:=List.mem_cons_of_mem _ q
   exact (List.nodup_append.mp S'.nd).2.2 C (by simp [cFm]) C this rfl
 refine codeAny_compStart_list (hloop _ rfl) ?_
 exact K.self (F:=cFm scope cl C F) (σ:=⟨capLoc caps σ₁.loc,(D,.list []) :: σ₁.zone⟩) hd S₃ off₃ r₃ (hloop _ rfl)
theorem EV_ListComp {elt target iter:Expr} {ifs:List Expr} {scope:Scope} {cl:List (Str × Addr)} {caps:List Str} {pos:Pos} {P:PV→AS→Prop}
  (ok:CompOk F scope cl caps) (h:SRC g A F iter σ fun xs σ₁=>∀ D C,CompP g A (cFm scope cl C F) D elt target ifs xs [] ⟨capLoc caps σ₁.loc,(D,.list []) :: σ₁.zone⟩ fun acc z=>P (.lst acc) ⟨σ₁.loc,z⟩)
  (hs:∀ x,foldedSetIterable iter F.env x=pure x:=by intro _; with_unfolding_all rfl):EV g A F (.ListComp elt [⟨target,iter,ifs,0⟩] scope pos) σ P:=by
 intro s S Q E k
 rw [eval_ListComp]
 refine comp_all ok h hs S fun C D p σ' s' hP S' hv st hC hf ho hl hn=>?_
 obtain ⟨m,hm⟩:=hn
 refine ⟨m,hm,fun h' hs'=>?_⟩
 have hq:∀ o,s'.heap.get? C=some o→∀ xs n,o.data≠.seq xs n:=fun o e xs n d=>by
  obtain ⟨o',es,ep,e',d',_⟩:=hm
  rw [e] at e'; cases e'
  rw [d] at d'; cases d'
 have kp:Kp s'.heap h' σ'.own σ'.own:=fun b o xs n e d no=>⟨hs'.extBut b o (fun q=>by subst q; exact hq o e xs n d) e,no⟩
 obtain ⟨S'',st''⟩:=S'.dictOff hl hf ho hs' ⟨m,hm⟩ st hC
 exact k _ p σ' _ hP S'' (hv.mono kp) st''
theorem EX_Assign_Comp {x:Str} {px spos:Pos} {elt target iter:Expr} {ifs:List Expr} {scope:Scope} {cl:List (Str × Addr)} {caps:List Str} {pos:Pos} {P:Fl→AS→Prop} (hk:FnEnv F)
  (ok:CompOk F scope cl caps) (h:SRC g A F iter σ fun xs σ₁=>∀ D C,CompP g A (cFm scope cl C F) D elt target ifs xs [] ⟨capLoc caps σ₁.loc,(D,.list []) :: σ₁.zone⟩ fun acc z=>P .next (AS.set ⟨σ₁.loc,z⟩ x (.lst acc)))
  (hx:F.env.kindOf x=some .local:=by with_unfolding_all rfl)
  (hsw:swapsWith (.ListComp elt [⟨target,iter,ifs,0⟩] scope pos) (some (.Name x px)) spos.line F.env=pure true:=by with_unfolding_all rfl)
  (hs:∀ x,foldedSetIterable iter F.env x=pure x:=by intro _; with_unfolding_all rfl):EX g A F (.Assign [.Name x px] (.ListComp elt [⟨target,iter,ifs,0⟩] scope pos) spos) σ P:=by
 intro s S Q E k
 rw [exec_Assign_Name_used _ _ _ _ hsw]
 refine wpAny_bind (wpAny_standAt (wpAny_bind ?_))
 show wpAny _ A (do let _ ← comprehension (.ListComp elt [⟨target,iter,ifs,0⟩] scope pos) scope F.env (firstIterPos [⟨target,iter,ifs,0⟩] pos) (newList []) false (firstIter [⟨target,iter,ifs,0⟩] F.env) (some (assign (.Name x px) F.env))) _ _ s
 refine wpAny_bind (wpAny_mono (comp_all (P:=fun p σ'=>P .next (σ'.set x p)) (Q:=fun _ s'=>Q .next s') ok h hs S fun C D p σ' s' hP S' hv st hC hf ho hl hn=>?_) (fun _ s' hq=>wpAny_pure (wpAny_pure hq)) fun _ _ e=>e)
 refine wpAny_assign_Name (store_local hk hx S' hv fun s₂ S₂ st₂=>?_)
 obtain ⟨m,o,es,ep,e,d,r⟩:=hn
 have hn₂:∃ m,s₂.heap.Ns C m:=⟨m,o,es,ep,st₂.keep C o e hf ho (frameLike.hard (.inl ⟨es,ep,d⟩)),d,r⟩
 obtain ⟨m₂,hm₂⟩:=hn₂
 refine ⟨m₂,hm₂,fun h' hs'=>?_⟩
 obtain ⟨S₃,st₃⟩:=S₂.dictOff hl hf ho hs' ⟨m₂,hm₂⟩ (st.up.trans st₂) hC
 exact k _ _ _ _ hP S₃ .next st₃
end
end Mine
end SM7
section SM8
open PySem PySem.Calls PyProof.Rows
namespace Mine
def itObj (o:Obj):Prop:=∃ T vs,o.cls=.type T∧o.data=.fields vs∧(["enumerate","zip","dict_itemiterator","dict_reverseitemiterator","odict_iterator","itertools.zip_longest","itertools.pairwise"].contains T)=false
theorem itObj.facts {o:Obj} (x:itObj o):o.cls≠.none∧¬ frameLike o∧∀ xs n,o.data≠.seq xs n:=by
 obtain ⟨T,vs,hc,hd,_⟩:=x
 exact ⟨by rw [hc]; simp,fun q=>by rcases q with ⟨_,_,q⟩ | ⟨_,q⟩ <;> (rw [hd] at q; cases q),fun xs n q=>by rw [hd] at q; cases q⟩
section
variable {g:Gl} {A:Around} {F:Fm} {σ:AS} {s:Shared}
theorem letGo_it {it:Addr} {o:Obj} {target:Expr} {v:Value} {Q:Unit→Shared→Prop} {E:Value→Shared→Prop} (e:s.heap.get? it=some o) (x:itObj o) (h:Q () s):wpAny (model g.prog g.w) A (letOwnedTupleGo target (.ref it) v) Q E s:=by
 obtain ⟨T,vs,hc,hd,hT⟩:=x
 have key:∀ a:Addr,wpAny (model g.prog g.w) A (match o.cls,o.data with
   | .type n,.fields vs =>
    if ["enumerate","zip","dict_itemiterator","dict_reverseitemiterator","odict_iterator","itertools.zip_longest","itertools.pairwise"].contains n && vs[0]? == some (rawInt a) then do
     rule "for.unpacks-the-owned-tuple"
     updateField it 0 .none
    else pure ()
   | _,_=>pure ():Sem Unit) Q E s:=fun a=>by
  rw [hc,hd]
  dsimp only
  rw [if_neg (by rw [hT]; simp)]
  exact wpAny_pure h
 unfold letOwnedTupleGo
 cases v <;> cases target <;> first
  | exact wpAny_pure h
  | (refine wpAny_bind (wpAny_load e ?_); exact key _)
def flatRel (I:Addr) (St:Nat→Heap→Prop) (all:List PV) (h:Heap) (own:List Addr) (ads:List Addr) (xs:List PV):Prop :=
 ads=[I]∧∃ i,i≤all.length∧St i h∧all.drop i=xs
def walkK (g:Gl) (A:Around) (I:Addr) (P:Nat→Value→Prop) (St:Nat→Heap→Prop) (all:List PV) (W:Walks g.prog g.w A I [I] [I] all.length P St)
  (hSt:∀ i h,St i h→∃ o,h.get? I=some o∧itObj o) (hP:∀ i v,P i v→∀ p,all[i]?=some p→∀ h own,VR h own p v):IterK g A where
 Rel:=flatRel I St all
 hard:=by
  rintro h own ads xs ⟨rfl,i,_,st,_⟩ a ha
  rw [List.mem_singleton] at ha; subst ha
  obtain ⟨o,e,x⟩:=hSt i h st
  exact ⟨o,e,x.facts⟩
 stable:=by
  rintro h h' own own' ads xs ⟨rfl,i,hi,st,hx⟩ kp ka
  exact ⟨rfl,i,hi,W.frame i h h' st ka,hx⟩
 next:=by
  rintro F σ s ads it x xs Q E hd S off ⟨rfl,i,hi,st,hx⟩ k
  obtain rfl:I=it:=by simpa using hd
  obtain ⟨h1,h2⟩:=drop_cons hx
  have hlt:i < all.length:=by
   rcases Nat.lt_or_ge i all.length with q | q
   ·exact q
   ·rw [List.getElem?_eq_none q] at h1; cases h1
  refine W.item i s Q E hlt st fun v h' tk hv st' hs=>?_
  obtain ⟨o1,o2,o3⟩:=off I (by simp)
  obtain ⟨o,e,x⟩:=hSt i _ st
  have S':=S.ext o3 (h':=h') (fun b o hb e=>hs b o (by simpa using hb) e) o1 o2 fun o' e'=>by rw [e] at e'; cases e'; exact x.facts.2
  exact k v _ (fun b o e hb=>hs b o hb e) rfl (S'.toks tk) (hP i v hv _ h1 _ _) ⟨rfl,i + 1,hlt,st',h2⟩
 stop:=by
  rintro F σ s ads it Q E hd S off ⟨rfl,i,hi,st,hx⟩ k
  obtain rfl:I=it:=by simpa using hd
  have hn:i=all.length:=by
   rw [List.drop_eq_nil_iff] at hx
   omega
  subst hn
  refine W.done s Q E st fun h' tk hs=>?_
  obtain ⟨o1,o2,o3⟩:=off I (by simp)
  obtain ⟨o,e,x⟩:=hSt _ _ st
  have S':=S.ext o3 (h':=h') (fun b o hb e=>hs b o (by simpa using hb) e) o1 o2 fun o' e'=>by rw [e] at e'; cases e'; exact x.facts.2
  exact k _ (fun b o e hb=>hs b o hb e) rfl (S'.toks tk)
 letGo:=by
  rintro F σ s ads it xs target v Q E hd S off ⟨rfl,i,hi,st,hx⟩ k
  obtain rfl:I=it:=by simpa using hd
  obtain ⟨o,e,x⟩:=hSt _ _ st
  exact letGo_it e x (k s (fun _ _ e _=>e) rfl S ⟨rfl,i,hi,st,hx⟩)
 self:=by
  rintro F σ s ads it xs Q E hd S off ⟨rfl,i,hi,st,hx⟩ k
  obtain rfl:I=it:=by simpa using hd
  exact W.self i s Q E st k
def chars (x:Str):List PV:=x.cps.toList.map fun c=>.str ⟨#[c]⟩
theorem striter_obj {T:String} {I:Addr} {x:Str} {t:Tok} {i:Nat} {h:Heap} (hT:(["enumerate","zip","dict_itemiterator","dict_reverseitemiterator","odict_iterator","itertools.zip_longest","itertools.pairwise"].contains T)=false) (y:h.IsStrIter I T x t i):∃ o,h.get? I=some o∧itObj o:=by
 obtain ⟨o,e,hc,hd⟩:=y
 exact ⟨o,e,T,_,hc,hd,hT⟩
theorem IT_flat {o:Obj} {all:List PV} {Pp:Nat→Value→Prop} {St:Nat→Heap→Prop} {Q:Value→Shared→Prop}
  (hW:Walks g.prog g.w A s.heap.objs.size [s.heap.objs.size] [s.heap.objs.size] all.length Pp St) (hSt:∀ i h,St i h→∃ o,h.get? s.heap.objs.size=some o∧itObj o) (h0:St 0 (s.heap.push o))
  (hP:∀ i v,Pp i v→∀ p,all[i]?=some p→∀ h own,VR h own p v) (S:Sat g F σ s)
  (k:∀ (K:IterK g A) it ads s',ads.head?=some it→Sat g F σ s'→Stp [] σ.own s σ.own s'→(∀ a∈ads,s.heap.get? a=none)→Off g F σ.own ads→K.Rel s'.heap σ.own ads all→Q (.ref it) s') :
  Q (.ref s.heap.objs.size) { s with heap:=s.heap.push o } :=
 k (walkK g A s.heap.objs.size Pp St all hW hSt hP) s.heap.objs.size [s.heap.objs.size] _ rfl (S.push o) (.push o) (fun a ha'=>by rw [List.mem_singleton] at ha'; subst ha'; exact get?_size _) S.off_new ⟨rfl,0,Nat.zero_le _,h0,rfl⟩
theorem IT_str {x:Str} (hr:Rm A 0):IT g A F (.str x) (chars x) σ:=by
 have hlen:(chars x).length=x.cps.size:=by simp [chars]
 have hP:∀ i v,SignAt x i v→∀ p,(chars x)[i]?=some p→∀ h own,VR h own p v:=by
  rintro i v ⟨c,u,hc,rfl⟩ p hp h own
  have:p=.str ⟨#[c]⟩:=by
   unfold chars at hp
   rw [List.getElem?_map,Array.getElem?_toList,hc] at hp
   exact (Option.some.inj hp).symm
  subst this
  exact .str _ _
 intro s v S hv Q E k
 cases hv with
 | str _ t =>
  refine wpAny_pyIter_strU ?_
  by_cases ha:x.cps.all (· < 128)=true
  ·have hT:strIterType x = "str_ascii_iterator":=by unfold strIterType; rw [if_pos ha]
   rw [hT]
   exact IT_flat (Pp:=SignAt x) (St:=fun i h=>h.IsStrIter s.heap.objs.size "str_ascii_iterator" x t i) (by rw [hlen]; exact Walks.strAscii hr.handled _ x t) (fun i h y=>striter_obj (by decide) y) ⟨_,Heap.get?_push_size _ rfl,rfl,rfl⟩ hP S k
  ·have hT:strIterType x = "str_iterator":=by unfold strIterType; rw [if_neg ha]
   rw [hT]
   exact IT_flat (Pp:=SignAt x) (St:=fun i h=>h.IsStrIter s.heap.objs.size "str_iterator" x t i) (by rw [hlen]; exact Walks.strWide hr.handled _ x t) (fun i h y=>striter_obj (by decide) y) ⟨_,Heap.get?_push_size _ rfl,rfl,rfl⟩ hP S k
def octs (b:Array UInt8):List PV:=b.toList.map fun c=>.int (c.toNat:Int)
theorem IT_byt {b:Array UInt8} (hr:Rm A 0):IT g A F (.byt b) (octs b) σ:=by
 have hlen:(octs b).length=b.size:=by simp [octs]
 intro s v S hv Q E k
 cases hv with
 | byt _ t =>
  refine PySem.W.KBw.pyIter_bytes ?_
  refine IT_flat (Pp:=fun i v=>∃ c u,b[i]?=some c∧v=.int (c.toNat:Int) u) (St:=fun i h=>PySem.W.KBw.IsBytesIter h s.heap.objs.size b t i) (by rw [hlen]; exact PySem.W.KBw.walks hr.handled _ b t) (fun i h y=>?_) ⟨_,Heap.get?_push_size _ rfl,rfl,rfl⟩ ?_ S k
  ·obtain ⟨o,e,hc,hd⟩:=y
   exact ⟨o,e,"bytes_iterator",_,hc,hd,by decide⟩
  ·rintro i v ⟨c,u,hc,rfl⟩ p hp h own
   have:p=.int (c.toNat:Int):=by
    unfold octs at hp
    rw [List.getElem?_map,Array.getElem?_toList,hc] at hp
    exact (Option.some.inj hp).symm
   subst this
   exact .int _ _
def rangeL (a c:Int) (n:Nat):List PV:=(List.range n).map fun (i:Nat)=>.int (a + (i:Int) * c)
inductive RArgs:List PV→Int→Int→Int→Prop
 | one (b:Int):RArgs [.int b] 0 b 1
 | two (a b:Int):RArgs [.int a,.int b] a b 1
 | three (a b c:Int) (hc:c≠0) (hp:Builtin.divisionGoesByPylong (b - a) c=false):RArgs [.int a,.int b,.int c] a b c
theorem rangeSize_nonneg (a b c:Int) (hc:c≠0):0≤Builtin.Range.rangeSize a b c:=by
 unfold Builtin.Range.rangeSize
 split
 ·split
  ·have:=Int.ediv_nonneg (a:=b - a - 1) (b:=c) (by omega) (by omega); omega
  ·omega
 ·split
  ·have:=Int.ediv_nonneg (a:=a - b - 1) (b:=-c) (by omega) (by omega); omega
  ·omega
theorem iter_range {a b c:Int} {t u v:Tok} {r:Addr} {Q:Value→Shared→Prop} {E:Value→Shared→Prop} (hr:Rm A 0) (hx:IsRange s.heap r a b c t u v) (hc:c≠0) (hs:Builtin.Range.small a b c=true) (S:Sat g F σ s)
  (k:∀ (K:IterK g A) it ads s',ads.head?=some it→Sat g F σ s'→Stp [] σ.own s σ.own s'→(∀ a∈ads,s.heap.get? a=none)→Off g F σ.own ads→K.Rel s'.heap σ.own ads (rangeL a c (Builtin.Range.rangeSize a b c).toNat)→Q (.ref it) s') :
  wpAny (model g.prog g.w) A (pyIter (.ref r)) Q E s:=by
 refine wpAny_pyIter_range hx hs ?_
 have hn:((Builtin.Range.rangeSize a b c).toNat:Int)=Builtin.Range.rangeSize a b c:=Int.toNat_of_nonneg (rangeSize_nonneg a b c hc)
 refine IT_flat (all:=rangeL a c (Builtin.Range.rangeSize a b c).toNat) (by simp only [rangeL,List.length_map,List.length_range]; exact Walks.range hr.handled _ a c _) (fun i h y=>⟨_,y,"range_iterator",_,rfl,rfl,by decide⟩) ?_ ?_ S k
 ·show IsRangeIter _ _ _ _ _
  rw [hn]
  simp only [Int.natCast_zero,Int.zero_mul,Int.add_zero,Int.sub_zero]
  exact Heap.get?_push_size _ rfl
 ·rintro i v ⟨t,rfl⟩ p hp h own
  unfold rangeL at hp
  rw [List.getElem?_map] at hp
  by_cases hi:i < (Builtin.Range.rangeSize a b c).toNat
  ·rw [List.getElem?_range hi] at hp
   cases hp
   exact .int _ _
  ·rw [List.getElem?_eq_none (by simp; omega)] at hp
   cases hp
theorem fresh_trans {fr own own':List Addr} {s₁:Shared} {ads:List Addr} (st:Stp fr own s own' s₁) (ha:∀ a∈ads,s₁.heap.get? a=none):∀ a∈ads,s.heap.get? a=none:=fun a ha'=>by
 cases q:s.heap.get? a with
 | none=>rfl
 | some o=>obtain ⟨o',e'⟩:=st.there a o q; rw [ha a ha'] at e'; cases e'
theorem SRC_range {func:Expr} {args:List Expr} {pos:Pos} {P:List PV→AS→Prop} (hr:Rm A 0)
  (h:EV g A F func σ fun p σ₁=>p=.raw (.type "range")∧EVs g A F args σ₁ fun ps σ₂=>∃ a b c,RArgs ps a b c∧Builtin.Range.small a b c=true∧P (rangeL a c (Builtin.Range.rangeSize a b c).toNat) σ₂)
  (he:eval (.Call func args [] pos) F.env=(do callWith pos (← eval func F.env) [] (backTo pos (starEach args F.env)) (backToKw pos (keywordEach [] F.env))):=by with_unfolding_all rfl)
  (hns:(backTo pos (starEach args F.env)).any (·.1)=false:=by with_unfolding_all rfl):SRC g A F (.Call func args [] pos) σ P:=by
 intro s S R E k
 refine Call_ (h s S _ E fun v p σ₁ s₁ h₁ S₁ hv st₁=>?_) he
 obtain ⟨rfl,h₁⟩:=h₁
 cases hv
 refine callWith_flat rfl hns (evalArgs_EVs h₁ hns S₁ fun vs ps σ₂ s₂ h₂ S₂ hvs st₂=>?_)
 obtain ⟨a,b,c,ra,hsm,hP⟩:=h₂
 have fin:∀ (o:Obj) (n:Nat) (t u v:Tok) (hc:c≠0),o={ cls:=.type "range",data:=.fields #[.int a t,.int b u,.int c v] }→wpAny (model g.prog g.w) A (pyIter (.ref s₂.heap.objs.size)) R E { s₂ with heap:=s₂.heap.push o,toks:=n }:=by
  rintro o n t u v hc rfl
  have S₃:=(S₂.push { cls:=.type "range",data:=.fields #[.int a t,.int b u,.int c v] }).toks n
  have st₃:Stp [] σ₂.own s₂ σ₂.own { s₂ with heap:=s₂.heap.push { cls:=.type "range",data:=.fields #[.int a t,.int b u,.int c v] },toks:=n }:=Stp.trans (.push _) .toks
  refine iter_range hr (t:=t) (u:=u) (v:=v) (Heap.get?_push_size _ rfl) hc hsm S₃ fun K it ads s₄ hd S₄ st₄ ha off r=>?_
  exact k K it ads _ σ₂ s₄ hd hP S₄ (st₁.trans (st₂.trans (st₃.trans st₄))) (fresh_trans (st₁.trans (st₂.trans st₃)) ha) off r
 cases ra with
 | one b =>
  cases hvs with | cons hv hs=>cases hs; cases hv; exact call_range_1 (fin _ _ _ _ _ (by decide) rfl)
 | two a b =>
  cases hvs with | cons hv hs=>cases hs with | cons hu hs=>cases hs; cases hv; cases hu; exact call_range_2 (fin _ _ _ _ _ (by decide) rfl)
 | three a b c hc hp =>
  cases hvs with | cons hv hs=>cases hs with | cons hu hs=>cases hs with | cons hw hs=>cases hs; cases hv; cases hu; cases hw; exact call_range_3 hc (fin _ _ _ _ _ hc rfl) (.inl hp)
def revRel (h:Heap) (own:List Addr) (ads:List Addr) (xs:List PV):Prop :=
 ∃ (it l:Addr) (i:Nat) (items:Array Value) (n:Nat) (ps:List PV),ads=[it]∧h.IsRevIter it l ((i:Int) - 1)∧l∉own∧h.get? l=some (lstObj items n)∧VRs h own ps items.toList∧i≤ps.length∧(ps.take i).reverse=xs
theorem reviter_obj {h:Heap} {it l:Addr} {i:Int} (x:h.IsRevIter it l i):∃ o,h.get? it=some o∧itObj o:=by
 obtain ⟨o,e,hc,hd⟩:=x
 exact ⟨o,e,"list_reverseiterator",_,hc,hd,by decide⟩
theorem take_rev_cons {ps xs:List PV} {x:PV} {i:Nat} (hi:i≤ps.length) (e:(ps.take i).reverse=x :: xs):∃ j,i=j + 1∧ps[j]?=some x∧(ps.take j).reverse=xs:=by
 cases i with
 | zero=>simp at e
 | succ j =>
  refine ⟨j,rfl,?_⟩
  have hj:j < ps.length:=hi
  rw [List.take_add_one,List.getElem?_eq_getElem hj] at e
  simp only [Option.toList_some,List.reverse_append,List.reverse_cons,List.reverse_nil,List.nil_append,List.cons_append] at e
  injection e with e1 e2
  exact ⟨by rw [List.getElem?_eq_getElem hj,e1],e2⟩
def revK (g:Gl) (A:Around) (hr:Rm A 0):IterK g A where
 Rel:=revRel
 hard:=by
  rintro h own ads xs ⟨it,l,i,items,n,ps,rfl,hit,_⟩ a ha
  rw [List.mem_singleton] at ha; subst ha
  obtain ⟨o,e,x⟩:=reviter_obj hit
  exact ⟨o,e,x.facts⟩
 stable:=by
  rintro h h' own own' ads xs ⟨it,l,i,items,n,ps,rfl,hit,hl,ho,hv,hi,hx⟩ kp ka
  obtain ⟨e1,e2⟩:=kp l _ items n ho rfl hl
  exact ⟨it,l,i,items,n,ps,rfl,hit.at (ka it (by simp)),e2,e1,hv.mono kp,hi,hx⟩
 next:=by
  rintro F σ s ads it x xs Q E hd S off ⟨it',l,i,items,n,ps,rfl,hit,hl,ho,hv,hi,hx⟩ k
  obtain rfl:it'=it:=by simpa using hd
  obtain ⟨j,rfl,h1,h2⟩:=take_rev_cons hi hx
  obtain ⟨v,hv1,hv2⟩:=hv.get h1
  have hit0:=hit
  rw [show (((j + 1:Nat):Int) - 1)=(j:Int) by omega] at hit
  refine wpAny_pyNext_rev_item hit ⟨_,ho,rfl,_,rfl⟩ (by simpa using hv1) fun h' hit' hs=>?_
  obtain ⟨o1,o2,o3⟩:=off it' (by simp)
  obtain ⟨o,e,y⟩:=reviter_obj hit
  obtain ⟨_,hf,hq⟩:=y.facts
  have kk:∀ b o,s.heap.get? b=some o→b∉[it']→h'.get? b=some o:=fun b o e hb=>hs.extBut b o (by simpa using hb) e
  have kp:Kp s.heap h' σ.own σ.own:=fun b o' xs n e' d no=>⟨kk b o' e' (fun q=>by
   rw [List.mem_singleton] at q; subst q
   rw [e] at e'; cases e'
   exact hq xs n d),no⟩
  refine k v _ kk rfl (S.ext o3 hs.extBut o1 o2 fun o' e'=>by rw [e] at e'; cases e'; exact ⟨hf,hq⟩) (hv2.mono kp) ⟨it',l,j,items,n,ps,rfl,hit',hl,(kp l _ items n ho rfl hl).1,hv.mono kp,Nat.le_of_succ_le hi,h2⟩
 stop:=by
  rintro F σ s ads it Q E hd S off ⟨it',l,i,items,n,ps,rfl,hit,hl,ho,hv,hi,hx⟩ k
  obtain rfl:it'=it:=by simpa using hd
  have h0:i=0:=by
   rw [List.reverse_eq_nil_iff,List.take_eq_nil_iff] at hx
   rcases hx with q | q
   ·exact q
   ·subst q; simpa using hi
  subst h0
  rw [show (((0:Nat):Int) - 1) = -1 by rfl] at hit
  refine wpAny_pyNext_rev_end hr.handled hit fun h' hs=>?_
  obtain ⟨o1,o2,o3⟩:=off it' (by simp)
  obtain ⟨o,e,y⟩:=reviter_obj hit
  exact k _ (fun b o e hb=>hs b o (by simpa using hb) e) rfl (S.ext o3 hs o1 o2 fun o' e'=>by rw [e] at e'; cases e'; exact y.facts.2)
 letGo:=by
  rintro F σ s ads it xs target v Q E hd S off ⟨it',l,i,items,n,ps,rfl,hit,hl,ho,hv,hi,hx⟩ k
  obtain rfl:it'=it:=by simpa using hd
  obtain ⟨o,e,y⟩:=reviter_obj hit
  exact letGo_it e y (k s (fun _ _ e _=>e) rfl S ⟨it',l,i,items,n,ps,rfl,hit,hl,ho,hv,hi,hx⟩)
 self:=by
  rintro F σ s ads it xs Q E hd S off ⟨it',l,i,items,n,ps,rfl,hit,hl,ho,hv,hi,hx⟩ k
  obtain rfl:it'=it:=by simpa using hd
  exact wpAny_pyIter_revIter hit k
theorem SRC_reversed {func arg:Expr} {pos:Pos} {P:List PV→AS→Prop} (hr:Rm A 0)
  (h:EV g A F func σ fun p σ₁=>p=.raw (.type "reversed")∧EVs g A F [arg] σ₁ fun ps σ₂=>∃ xs,ps=[.lst xs]∧P xs.reverse σ₂)
  (he:eval (.Call func [arg] [] pos) F.env=(do callWith pos (← eval func F.env) [] (backTo pos (starEach [arg] F.env)) (backToKw pos (keywordEach [] F.env))):=by with_unfolding_all rfl)
  (hns:(backTo pos (starEach [arg] F.env)).any (·.1)=false:=by with_unfolding_all rfl):SRC g A F (.Call func [arg] [] pos) σ P:=by
 intro s S R E k
 refine Call_ (h s S _ E fun v p σ₁ s₁ h₁ S₁ hv st₁=>?_) he
 obtain ⟨rfl,h₁⟩:=h₁
 cases hv
 refine callWith_flat rfl hns (evalArgs_EVs h₁ hns S₁ fun vs ps σ₂ s₂ h₂ S₂ hvs st₂=>?_)
 obtain ⟨xs,rfl,hP⟩:=h₂
 cases hvs with
 | cons hv hs =>
  cases hs
  cases hv with
  | @lst _ l items n ha ho hl =>
   refine call_reversed_list ⟨_,ho,rfl,_,rfl⟩ ?_
   have S₃:=S₂.push (revObj l ((items.size:Int) - 1))
   have hit:(s₂.heap.push (revObj l ((items.size:Int) - 1))).IsRevIter s₂.heap.objs.size l ((items.size:Int) - 1):=⟨_,Heap.get?_push_size _ rfl,rfl,rfl⟩
   refine wpAny_pyIter_revIter hit ?_
   have kp:Kp s₂.heap (s₂.heap.push (revObj l ((items.size:Int) - 1))) σ₂.own σ₂.own:=fun b o' xs n e _ no=>⟨Heap.get?_push_of_some _ e,no⟩
   have hsz:=hl.toArray
   refine k (revK g A hr) s₂.heap.objs.size [s₂.heap.objs.size] _ σ₂ _ rfl hP S₃ (st₁.trans (st₂.trans (.push _))) (fresh_trans (st₁.trans st₂) fun a ha'=>by rw [List.mem_singleton] at ha'; subst ha'; exact get?_size _) S₂.off_new ?_
   exact ⟨_,l,items.size,items,n,xs,rfl,hit,ha,Heap.get?_push_of_some _ ho,hl.mono kp,by omega,by rw [hsz,List.take_length]⟩
end
end Mine
end SM8
section SM9
open PySem PySem.Calls PyProof.Rows
namespace Mine
def ofL (l:List Nat):Str:=⟨l.toArray⟩
abbrev tx (l:List Nat):PV:=.str (ofL l)
theorem ofL_len (l:List Nat):(ofL l).length=l.length:=by simp [ofL,Str.length]
theorem ofL_app (a b:List Nat):ofL a++ofL b=ofL (a++b):=by
 apply Str.ext'
 show (a.toArray++b.toArray:Array Nat)=_
 simp [ofL]
theorem ofL_inj {a b:List Nat} (h:ofL a=ofL b):a=b:=by
 have:=congrArg (fun x:Str=>x.cps.toList) h
 simpa [ofL] using this
theorem ofL_toList (l:List Nat):(ofL l).cps.toList=l:=by simp [ofL]
theorem ofL_beq (a b:List Nat):(ofL a == ofL b)=decide (a=b):=by
 by_cases h:a=b
 ·subst h; simp
 ·simp only [h,decide_false]
  rw [beq_eq_false_iff_ne]
  exact fun q=>h (ofL_inj q)
def joinL (sep:List Nat):List (List Nat)→List Nat
 | []=>[]
 | [x]=>x
 | x :: y :: r=>x++sep++joinL sep (y :: r)
theorem ofL_join (sep:List Nat):∀ l:List (List Nat),Str.join (ofL sep) (l.map ofL)=ofL (joinL sep l)
 | []=>rfl
 | [x]=>rfl
 | x :: y :: r=>by
  show ofL x++ofL sep++Str.join (ofL sep) ((y :: r).map ofL)=_
  rw [ofL_join sep (y :: r),ofL_app,ofL_app]; rfl
theorem joinL_nil:∀ l:List (List Nat),joinL [] l=l.flatten
 | []=>rfl
 | [x]=>by simp [joinL]
 | x :: y :: r=>by
  show x++[]++joinL [] (y :: r)=_
  rw [joinL_nil (y :: r)]; simp
section
variable {g:Gl} {A:Around} {F:Fm} {σ:AS} {P:PV→AS→Prop} {s:Shared}
theorem EV_strL {x:Str} {n:Nat} {pos:Pos} (l:List Nat) (h:P (tx l) σ) (hx:x=ofL l:=by decide +kernel):EV g A F (.Constant (.str x) n pos) σ P:=by
 subst hx; exact EV_str h
theorem add_tt {a b:List Nat} (hs:a.length + b.length≤16777216) (h:P (tx (a++b)) σ):OP2 g A F (binaryOp .Add) (tx a) (tx b) σ P :=
 add_ss (by rw [ofL_len,ofL_len]; exact hs) (by rw [ofL_app]; exact h)
theorem iadd_tt {a b:List Nat} (hs:a.length + b.length≤16777216) (h:P (tx (a++b)) σ):OP2 g A F (inplaceOp .Add) (tx a) (tx b) σ P :=
 iadd_ss (by rw [ofL_len,ofL_len]; exact hs) (by rw [ofL_app]; exact h)
theorem c_eq_tt {a b:List Nat} (h:P (.raw (.bool (decide (a=b)))) σ):OP2 g A F (compareOp .Eq) (tx a) (tx b) σ P :=
 c_eq_ss (by rw [ofL_beq]; exact h)
theorem c_ne_tt {a b:List Nat} (h:P (.raw (.bool (!decide (a=b)))) σ):OP2 g A F (compareOp .NotEq) (tx a) (tx b) σ P :=
 c_ne_ss (by rw [show (ofL a != ofL b) = !(ofL a == ofL b) from rfl,ofL_beq]; exact h)
theorem c_in_ct {c:Nat} {l:List Nat} (h:P (.raw (.bool (decide (c∈l)))) σ):OP2 g A F (compareOp .In) (tx [c]) (tx l) σ P :=
 c_in_ss (by rw [show ofL [c]=⟨#[c]⟩ from rfl,StrLaws.found_one,ofL_toList]; exact h)
theorem c_notin_ct {c:Nat} {l:List Nat} (h:P (.raw (.bool (!decide (c∈l)))) σ):OP2 g A F (compareOp .NotIn) (tx [c]) (tx l) σ P:=fun s v u S hv hu Q E k=>by
 cases hv; cases hu
 refine PyProof.Rows.notIn_str ?_
 rw [show ofL [c]=⟨#[c]⟩ from rfl]
 refine k _ _ σ s h S ?_ .refl
 have:=StrLaws.found_one (ofL l) c
 rw [ofL_toList] at this
 rw [← this]
 exact .raw _
theorem TT_str {l:List Nat} {P:Bool→AS→Prop} (hs:l.length≤16777216) (h:P (!l.isEmpty) σ):TT g A F (tx l) σ P:=fun s v S hv Q E k=>by
 cases hv
 refine PySem.P.truthy_str (by rw [ofL_len]; omega) ?_
 have e:(((ofL l).length:Int) != 0) = !l.isEmpty:=by rw [ofL_len]; cases l <;> simp; omega
 rw [e]
 exact k _ σ _ h (S.toks _) .toks
theorem TT_int {i:Int} {P:Bool→AS→Prop} (h:P (i != 0) σ):TT g A F (.int i) σ P:=fun s v S hv Q E k=>by
 cases hv; exact PyProof.Rows.truthy_int (k _ σ s h S .refl)
theorem TT_lst {l:List PV} {P:Bool→AS→Prop} (hs:l.length≤16777216) (h:P (!l.isEmpty) σ):TT g A F (.lst l) σ P:=fun s v S hv Q E k=>by
 cases hv with
 | lst ha ho hl =>
  have hsz:=hl.toArray
  refine wpAny_truthy_list ⟨_,ho,rfl,_,rfl⟩ (by omega) ?_
  rename_i a items n
  have e:(!items.isEmpty) = !l.isEmpty:=by
   have e1:items.isEmpty=decide (items.size=0):=rfl
   rw [e1,hsz]; cases l <;> simp
  rw [e]
  exact k _ σ _ h (S.toks _) .toks
theorem CL_len_t {l:List Nat} (hs:l.length≤16777216) (h:P (.int l.length) σ):CL g A F (.builtin "len") [tx l] σ P:=fun s vs S hvs Q E k=>by
 cases hvs with | cons hv hs'=>cases hs'; cases hv; exact len_str (by rw [ofL_len]; omega) (by rw [ofL_len]; exact k _ _ σ _ h (S.toks _) (.int _ _) .toks)
theorem CL_len_l {l:List PV} (hs:l.length≤16777216) (h:P (.int l.length) σ):CL g A F (.builtin "len") [.lst l] σ P:=fun s vs S hvs Q E k=>by
 cases hvs with | cons hv hs'=>cases hs'; cases hv with | lst ha ho hl =>
  have hsz:=hl.toArray
  exact len_list ⟨_,ho,rfl,_,rfl⟩ (by omega) (by rw [hsz]; exact k _ _ σ _ h (S.toks _) (.int _ _) .toks)
theorem CL_len_b {b:Array UInt8} (hs:b.size≤16777216) (h:P (.int b.size) σ):CL g A F (.builtin "len") [.byt b] σ P:=fun s vs S hvs Q E k=>by
 cases hvs with | cons hv hs'=>cases hs'; cases hv; exact PySem.W.len_bytes (by omega) (k _ _ σ _ h (S.toks _) (.int _ _) .toks)
theorem CL_len_z {D:Addr} {l:List PV} (hz:(D,.list l)∈σ.zone) (hs:l.length≤16777216) (h:P (.int l.length) σ):CL g A F (.builtin "len") [.raw (.ref D)] σ P:=fun s vs S hvs Q E k=>by
 cases hvs with | cons hv hs'=>cases hs'; cases hv; obtain ⟨items,n,h1,h2⟩:=S.zs _ hz; have hsz:=h2.toArray; exact len_list ⟨_,h1,rfl,_,rfl⟩ (by omega) (by rw [hsz]; exact k _ _ σ _ h (S.toks _) (.int _ _) .toks)
theorem CL_ord {c:Nat} (h:P (.int c) σ):CL g A F (.builtin "ord") [tx [c]] σ P:=fun s vs S hvs Q E k=>by
 cases hvs with | cons hv hs'=>cases hs'; cases hv; exact ord_of_one (by rw [ofL_len]; rfl) (k _ _ σ _ h (S.toks _) (.int _ _) .toks)
theorem CL_chr {c:Nat} (hc:c≤1114111) (h:P (tx [c]) σ):CL g A F (.builtin "chr") [.int c] σ P:=fun s vs S hvs Q E k=>by
 cases hvs with | cons hv hs'=>cases hs'; cases hv; exact chr_of_range (by omega) (by omega) (k _ _ σ _ h (S.toks _) (.str _ _) .toks)
def isSpaceL (l:List Nat):Bool:=!l.isEmpty && l.all Unicode.isSpace
theorem CL_isspace {l:List Nat} (h:P (.raw (.bool (isSpaceL l))) σ):CL g A F (.builtin "str.isspace") [tx l] σ P:=fun s vs S hvs Q E k=>by
 cases hvs with | cons hv hs'=>cases hs'; cases hv; refine SC.isspace ?_; rw [show Txt.isspace (ofL l)=isSpaceL l from by unfold Txt.isspace isSpaceL; rw [ofL_len]; cases l <;> simp [ofL]]; exact k _ _ σ s h S (.raw _) .refl
def startsL (l p:List Nat):Bool:=decide (p.length≤l.length) && (l.take p.length == p)
def endsL (l p:List Nat):Bool:=decide (p.length≤l.length) && ((l.drop (l.length - p.length)).take p.length == p)
theorem CL_starts {l p:List Nat} (h:P (.raw (.bool (startsL l p))) σ):CL g A F (.builtin "str.startswith") [tx l,tx p] σ P:=fun s vs S hvs Q E k=>by
 cases hvs with | cons hv hs'=>cases hs' with | cons hu hs'=>cases hs'; cases hv; cases hu; refine SC.startswith ?_; rw [show Txt.startswith (ofL l) (ofL p)=startsL l p from by unfold Txt.startswith startsL; rw [StrLaws.subAt_eq,ofL_len,ofL_len,ofL_toList,ofL_toList]; simp]; exact k _ _ σ s h S (.raw _) .refl
theorem CL_ends {l p:List Nat} (h:P (.raw (.bool (endsL l p))) σ):CL g A F (.builtin "str.endswith") [tx l,tx p] σ P:=fun s vs S hvs Q E k=>by
 cases hvs with | cons hv hs'=>cases hs' with | cons hu hs'=>cases hs'; cases hv; cases hu; refine SC.endswith ?_; rw [show Txt.endswith (ofL l) (ofL p)=endsL l p from by unfold Txt.endswith endsL; rw [StrLaws.subAt_eq,ofL_len,ofL_len,ofL_toList,ofL_toList]; simp]; exact k _ _ σ s h S (.raw _) .refl
theorem strsOf {h:Heap} {own:List Addr}:∀ {ls:List (List Nat)} {vs:List Value},VRs h own (ls.map tx) vs→StrsAre vs (ls.map ofL)
 | [],_,x=>by cases x; exact .nil
 | l :: ls,_,x=>by
  cases x with
  | cons hv hs=>cases hv; exact .cons _ _ (strsOf hs)
def JoinFit (sep:List Nat) (ls:List (List Nat)):Prop:=(ls.map (·.length)).sum + ls.length * sep.length≤16777216
theorem CL_join {sep:List Nat} {ls:List (List Nat)} (hok:JoinFit sep ls) (h:P (tx (joinL sep ls)) σ):CL g A F (.builtin "str.join") [tx sep,.lst (ls.map tx)] σ P:=fun s vs S hvs Q E k=>by
 cases hvs with | cons hv hs'=>cases hs' with | cons hu hs'=>cases hs'; cases hv; cases hu with | lst ha ho hl =>
  refine join_list ⟨_,ho,rfl,_,rfl⟩ (strsOf hl) ?_ fun t' tk=>?_
  ·have:((ls.map ofL).map fun x=>x.length)=ls.map (·.length):=by rw [List.map_map]; exact List.map_congr_left fun a _=>ofL_len a
   rw [this,ofL_len,List.length_map]; exact hok
  ·rw [show Txt.join (ofL sep) (ls.map ofL)=ofL (joinL sep ls) from (StrLaws.glued_eq_join _ _).trans (ofL_join _ _)]
   exact k _ _ σ _ h (S.toks _) (.str _ _) .toks
theorem MT_of {l:List Nat} {name:Str} {id:String} (slot:Slot "str" name id) (ty:typeOf (.builtin id)=pure (.type "method_descriptor")):MT g A F (tx l) name id σ:=fun s v S hv pl Q E k=>by
 cases hv; exact GM.of _ (typeIs_str _ _ _) slot ty GM.noRef (k _)
end
end Mine
end SM9
section SM10
open PySem PySem.Calls PyProof.Rows
namespace Mine
def slo (n:Nat) (lo:Option Int):Nat:=lo.elim 0 (clipAt n)
def shi (n:Nat) (hi:Option Int):Nat:=hi.elim n (clipAt n)
def sl {α:Type} (l:List α) (lo hi:Option Int):List α:=(l.drop (slo l.length lo)).take (shi l.length hi - slo l.length lo)
theorem sl_length_le {α:Type} (l:List α) (lo hi:Option Int):(sl l lo hi).length≤l.length:=by
 unfold sl; rw [List.length_take,List.length_drop]; omega
theorem Txt_slice (l:List Nat) (lo hi:Option Int):Txt.slice (ofL l) lo hi=ofL (sl l lo hi):=by
 have e:Builtin.Str.strSliceIndices lo hi 1 l.length=PySem.sliceRange (sliceBounds lo hi none l.length).1 (sliceBounds lo hi none l.length).2.1 (sliceBounds lo hi none l.length).2.2:=rfl
 have p:(Builtin.Str.strSliceIndices lo hi 1 l.length).filterMap ((ofL l).cps[·]?)=sl l lo hi:=by
  rw [e,sliceBounds_plain,sliceRange_one,pick_run]
  simp only [ofL]; rfl
 unfold Txt.slice
 rw [ofL_len,p]
 split
 ·rename_i h
  have h':(Builtin.Str.strSliceIndices lo hi 1 l.length).length=l.length:=by simpa using h
  rw [e,sliceBounds_plain,sliceRange_one] at h'
  have hb:shi l.length hi - slo l.length lo=l.length:=by
   rw [List.length_map,List.length_range] at h'
   unfold shi slo; omega
  have hle:shi l.length hi≤l.length:=by
   unfold shi
   cases hi with
   | none=>exact Nat.le_refl _
   | some i=>have:=clipAt_cast l.length i; simp only [Option.elim]; omega
  have h0:slo l.length lo=0∨l.length=0:=by omega
  congr 1
  unfold sl
  rcases h0 with h0 | h0
  ·rw [hb,h0,List.drop_zero,List.take_length]
  ·have:l=[]:=List.eq_nil_of_length_eq_zero h0
   subst this; simp
 ·rfl
theorem subTail {prog:Program} {w:World} {A:Around} {E:Value→Shared→Prop} {s:Shared} {value slice:Expr} {o i:Value} {T id:String} {ops:List Value} {Q:Value→Shared→Prop} (hT:s.TypeIs o T)
  (hl:typeLookup (.type T) "__getitem__" = pure (some (.builtin id))) (hs:subscripted slice false o i=operate ops (getItem o i)) (h:wpAny (model prog w) A (getItem o i) Q E s) :
  wpAny (model prog w) A (subscriptTail value slice o i) Q E s:=by
 unfold subscriptTail
 refine wpAny_bind ?_
 rw [getitemInPython_of_ne hT.not_modules]
 refine wpAny_bind (wpAny_specialOf hT hl ?_)
 have fin:wpAny (model prog w) A (subscripted slice false o i) (fun r s₃=>wpAny (model prog w) A (letTemporaryGo value o r>>=fun _=>pure r) Q E s₃) E s:=by
  rw [hs]
  exact wpAny_operating (wpAny_mono h (fun r s₃ h₃=>wpAny_bind (wpAny_letTemporaryGo (wpAny_pure h₃))) fun _ _ x=>x)
 first
  | exact wpAny_pure (wpAny_bind fin)
  | exact wpAny_bind (wpAny_pure (wpAny_bind fin))
  | exact wpAny_bind fin
theorem seqIdx_lt {i:Int} {n j:Nat} (h:seqIndex? i n=some j):j < n∧-(n:Int)≤i∧i < n∧j=(if i < 0 then (i + n).toNat else i.toNat):=by
 unfold seqIndex? at h
 dsimp only at h
 split at h
 ·rename_i h0
  split at h
  ·rename_i h1
   cases h
   simp only [Bool.and_eq_true,decide_eq_true_eq] at h1
   rw [if_pos h0]; omega
  ·cases h
 ·rename_i h0
  split at h
  ·rename_i h1
   cases h
   simp only [Bool.and_eq_true,decide_eq_true_eq] at h1
   rw [if_neg h0]; omega
  ·cases h
section
variable {g:Gl} {A:Around} {F:Fm} {σ:AS} {P:PV→AS→Prop} {s:Shared} {value slice:Expr}
theorem getItem_listZ {prog:Program} {w:World} {A:Around} {E:Value→Shared→Prop} {s:Shared} {l:Addr} {items:Array Value} {k:Int} {t:Tok} {x:Value} {j:Nat} {Q:Value→Shared→Prop} (hl:s.heap.IsList l items) (hz:items.size≤16777216) (hj:seqIndex? k items.size=some j)
  (hx:items[j]?=some x) (h:Q x s):wpAny (model prog w) A (getItem (.ref l) (.int k t)) Q E s:=by
 obtain ⟨h1,h2,h3,h4⟩:=seqIdx_lt hj
 by_cases h0:k < 0
 ·rw [if_pos h0] at h4
  exact wpAny_getItem_list_neg hl h0 h2 (by omega) (by rw [← h4]; exact hx) h
 ·rw [if_neg h0] at h4
  exact wpAny_getItem_list hl (by omega) (by omega) (by rw [← h4]; exact hx) h
theorem IX_t {l:List Nat} {i:Int} {j c:Nat} (hj:seqIndex? i l.length=some j) (hc:l[j]?=some c) (hz:l.length≤16777216) (h:P (tx [c]) σ)
  (hs:∀ v u,subscripted slice false v u=operate [v,u] (getItem v u):=by intro _ _; with_unfolding_all rfl):IX g A F value slice (tx l) (.int i) σ P:=fun s v u S hv hu Q E k=>by
 cases hv; cases hu
 obtain ⟨h1,h2,h3,h4⟩:=seqIdx_lt hj
 refine subTail (typeIs_str _ _ _) PySem.F.slot_str_getitem.lookup (hs _ _) (getItem_str (c:=c) ?_ ?_ (k _ _ σ _ h (S.toks _) (.str _ _) .toks))
 ·rw [decide_eq_false (by omega),decide_eq_false (by omega)]; rfl
 ·rw [ofL_len,hj]; simpa [ofL] using hc
theorem IX_l {l:List PV} {i:Int} {j:Nat} {p:PV} (hj:seqIndex? i l.length=some j) (hc:l[j]?=some p) (hz:l.length≤16777216) (h:P p σ)
  (hs:∀ v u,subscripted slice false v u=operate [v,u] (getItem v u):=by intro _ _; with_unfolding_all rfl):IX g A F value slice (.lst l) (.int i) σ P:=fun s v u S hv hu Q E k=>by
 cases hu
 cases hv with
 | lst ha ho hl =>
  obtain ⟨v,hv1,hv2⟩:=hl.get hc
  have hsz:=hl.toArray
  refine subTail (T:="list") ⟨_,ho,rfl⟩ slot_list_getitem.lookup (hs _ _) (getItem_listZ ⟨_,ho,rfl,_,rfl⟩ (by omega) (by rw [hsz]; exact hj) (by simpa using hv1) (k _ _ σ s h S hv2 .refl))
theorem IX_tup {l:List PV} {i:Int} {j:Nat} {p:PV} (hj:seqIndex? i l.length=some j) (hc:l[j]?=some p) (hz:l.length≤16777216) (h:P p σ)
  (hs:∀ v u,subscripted slice false v u=operate [v,u] (getItem v u):=by intro _ _; with_unfolding_all rfl):IX g A F value slice (.tup l) (.int i) σ P:=fun s v u S hv hu Q E k=>by
 cases hu
 cases hv with
 | tup ha ho hl =>
  obtain ⟨v,hv1,hv2⟩:=hl.get hc
  have hsz:=hl.toArray
  obtain ⟨h1,h2,h3,h4⟩:=seqIdx_lt hj
  refine subTail (T:="tuple") ⟨_,ho,rfl⟩ slot_tuple_getitem.lookup (hs _ _) (PyProof.Rows.getItem_tuple ⟨_,ho,rfl,_,rfl⟩ (by omega) (by omega) (by rw [hsz]; exact hj) (by simpa using hv1) (k _ _ σ s h S hv2 .refl))
theorem IX_z {D:Addr} {l:List PV} {i:Int} {j:Nat} {p:PV} (hz':(D,.list l)∈σ.zone) (hj:seqIndex? i l.length=some j) (hc:l[j]?=some p) (hz:l.length≤16777216) (h:P p σ)
  (hs:∀ v u,subscripted slice false v u=operate [v,u] (getItem v u):=by intro _ _; with_unfolding_all rfl):IX g A F value slice (.raw (.ref D)) (.int i) σ P:=fun s v u S hv hu Q E k=>by
 cases hu
 cases hv
 obtain ⟨items,n,ho,hl⟩:=S.zs _ hz'
 obtain ⟨v,hv1,hv2⟩:=hl.get hc
 have hsz:=hl.toArray
 exact subTail (T:="list") ⟨_,ho,rfl⟩ slot_list_getitem.lookup (hs _ _) (getItem_listZ ⟨_,ho,rfl,_,rfl⟩ (by omega) (by rw [hsz]; exact hj) (by simpa using hv1) (k _ _ σ s h S hv2 .refl))
theorem IX_b {b:List UInt8} {i:Int} (h0:0≤i) (h1:i < b.length) (hz:b.length≤16777216) (h:P (.int (b.getD i.toNat 0).toNat) σ)
  (hs:∀ v u,subscripted slice false v u=operate [v,u] (getItem v u):=by intro _ _; with_unfolding_all rfl):IX g A F value slice (.byt b.toArray) (.int i) σ P:=fun s v u S hv hu Q E k=>by
 cases hv; cases hu
 exact subTail (PySem.W.typeIs_bytes _ _ _) PySem.W.FB.slot_bytes_getitem.lookup (hs _ _) (PySem.W.getItem_bytes (by omega) h0 h1 (k _ _ σ _ h (S.toks _) (.int _ _) .toks))
def PT (g:Gl) (A:Around) (F:Fm) (e:Option Expr) (σ:AS) (P:Option Int→AS→Prop):Prop :=
 ∀ s,Sat g F σ s→∀ (Q:Value→Shared→Prop) (E:Value→Shared→Prop),(∀ v lo σ' s',P lo σ'→Sat g F σ' s'→IsPart v lo→Stp [] σ.own s σ'.own s'→Q v s')→wpAny (model g.prog g.w) A (evalPart e F.env) Q E s
theorem PT_none {P:Option Int→AS→Prop} (h:P none σ):PT g A F none σ P:=fun s S Q E k=>evalPart_none_step (k _ _ σ s h S .none .refl)
theorem PT_some {e:Expr} {P:Option Int→AS→Prop} (h:EV g A F e σ fun p σ₁=>∃ i,p=.int i∧P (some i) σ₁):PT g A F (some e) σ P:=fun s S Q E k =>
 evalPart_some_step (h s S _ E fun v p σ₁ s₁ h₁ S₁ hv st₁=>by
  obtain ⟨i,rfl,hP⟩:=h₁
  cases hv
  exact k _ _ σ₁ s₁ hP S₁ (.int _ _) st₁)
def SLC (g:Gl) (A:Around) (F:Fm) (p:PV) (lo hi:Option Int) (σ:AS) (P:PV→AS→Prop):Prop :=
 ∀ s v,Sat g F σ s→VR s.heap σ.own p v→∃ T id,typeLookup (.type T) "__getitem__" = pure (some (.builtin id))∧s.TypeIs v T∧∀ a vl vu,s.heap.IsSliceOf a vl vu .none→IsPart vl lo→IsPart vu hi →
  ∀ (Q:Value→Shared→Prop) (E:Value→Shared→Prop),(∀ a b σ' s',P b σ'→Sat g F σ' s'→VR s'.heap σ'.own b a→Stp [] σ.own s σ'.own s'→Q a s')→wpAny (model g.prog g.w) A (getItem v (.ref a)) Q E s
theorem EV_SubSlice {lower upper:Option Expr} {p pos:Pos} (h:EV g A F value σ fun p σ₁=>PT g A F lower σ₁ fun lo σ₂=>PT g A F upper σ₂ fun hi σ₃=>SLC g A F p lo hi σ₃ P) :
  EV g A F (.Subscript value (.Slice lower upper none p) pos) σ P:=by
 intro s S Q E k
 refine Subscript_ (h s S _ E fun v p σ₁ s₁ h₁ S₁ hv st₁=>wpAny_Slice (h₁ s₁ S₁ _ E fun vl lo σ₂ s₂ h₂ S₂ hl st₂=>h₂ s₂ S₂ _ E fun vu hi σ₃ s₃ h₃ S₃ hu st₃=>?_))
 rw [evalPart_none]
 have S₄:=S₃.push { cls:=.type "slice",data:=.fields #[vl,vu,.none] }
 have st₄:Stp [] σ₁.own s₁ σ₃.own _:=st₂.trans (st₃.trans (Stp.push { cls:=.type "slice",data:=.fields #[vl,vu,.none] }))
 obtain ⟨T,id,hlook,hT,hgo⟩:=h₃ _ v S₄ (hv.mono (S₁.kp st₄))
 refine wpAny_pure (subTail (ops:=[.ref s₃.heap.objs.size,v]) hT hlook rfl (hgo _ _ _ (Heap.IsSliceOf.new _ _ _ _) hl hu Q E fun a b σ' s' h' S' hr st'=>k a b σ' s' h' S' hr (st₁.trans (st₄.trans st'))))
theorem SLC_t {l:List Nat} {lo hi:Option Int} (hz:l.length≤16777216) (h:P (tx (sl l lo hi)) σ):SLC g A F (tx l) lo hi σ P:=fun s v S hv=>by
 cases hv with
 | str _ t =>
  refine ⟨"str",_,PySem.F.slot_str_getitem.lookup,typeIs_str _ _ _,fun a vl vu hs hl hu Q E k=>?_⟩
  have fin:∀ t' tk,Q (.str (Txt.slice (ofL l) lo hi) t') { s with toks:=tk }:=fun t' tk=>by
   rw [Txt_slice]; exact k _ _ σ _ h (S.toks _) (.str _ _) .toks
  have hle:(Txt.slice (ofL l) lo hi).length≤sizeLine:=Nat.le_trans (Txt.slice_le _ _ _) (by rw [ofL_len]; exact hz)
  obtain ⟨o,ho,hc,hd⟩:=hs
  cases hl with
  | none=>cases hu with
   | none=>exact wpAny_getItem_str_slice (l:=none) (u:=none) (st:=none) ⟨o,ho,hc,hd⟩ rfl (post_val_or_str ⟨hle,fin⟩)
   | int j u=>exact wpAny_getItem_str_slice (l:=none) (u:=some (j,u)) (st:=none) ⟨o,ho,hc,hd⟩ rfl (post_val_or_str ⟨hle,fin⟩)
  | int i t'=>cases hu with
   | none=>exact wpAny_getItem_str_slice (l:=some (i,t')) (u:=none) (st:=none) ⟨o,ho,hc,hd⟩ rfl (post_val_or_str ⟨hle,fin⟩)
   | int j u=>exact wpAny_getItem_str_slice (l:=some (i,t')) (u:=some (j,u)) (st:=none) ⟨o,ho,hc,hd⟩ rfl (post_val_or_str ⟨hle,fin⟩)
theorem VRs.sl {h:Heap} {own:List Addr} {ps:List PV} {items:Array Value} (x:VRs h own ps items.toList) (lo hi:Option Int):VRs h own (sl ps lo hi) (slicePick items lo hi none).toList:=by
 rw [slicePick_plain]
 have e:=x.toArray
 unfold Mine.sl slo shi
 rw [← e]
 exact (x.drop _).take _
theorem SLC_l {l:List PV} {lo hi:Option Int} (hz:l.length≤16777216) (h:P (.lst (sl l lo hi)) σ):SLC g A F (.lst l) lo hi σ P:=fun s v S hv=>by
 cases hv with
 | lst ha ho hl =>
  have hsz:=hl.toArray
  refine ⟨"list",_,list_getitem_lookup,⟨_,ho,rfl⟩,fun a vl vu hs hl' hu Q E k=>?_⟩
  refine wpAny_getItem_list_slice ⟨_,ho,rfl,_,rfl⟩ hs hl' hu .none (by simp) ?_ (by rw [hsz]; exact hz)
  exact k _ _ σ _ h (S.push _) (VR.newLst S (hl.sl lo hi)) (.push _)
theorem SLC_z {D:Addr} {l:List PV} {lo hi:Option Int} (hz':(D,.list l)∈σ.zone) (hz:l.length≤16777216) (h:P (.lst (sl l lo hi)) σ):SLC g A F (.raw (.ref D)) lo hi σ P:=fun s v S hv=>by
 cases hv
 obtain ⟨items,n,ho,hl⟩:=S.zs _ hz'
 have hsz:=hl.toArray
 refine ⟨"list",_,list_getitem_lookup,⟨_,ho,rfl⟩,fun a vl vu hs hl' hu Q E k=>?_⟩
 refine wpAny_getItem_list_slice ⟨_,ho,rfl,_,rfl⟩ hs hl' hu .none (by simp) ?_ (by rw [hsz]; exact hz)
 exact k _ _ σ _ h (S.push _) (VR.newLst S (hl.sl lo hi)) (.push _)
theorem add_ll {l r:List PV} (hz:l.length + r.length≤16777216) (h:P (.lst (l++r)) σ):OP2 g A F (binaryOp .Add) (.lst l) (.lst r) σ P:=fun s v u S hv hu Q E k=>by
 cases hv with
 | lst ha ho hl=>cases hu with
  | lst ha' ho' hl' =>
   have hsz:=hl.toArray
   have hsz':=hl'.toArray
   refine PySem.P.add_list ho ho' ?_ (by rw [hsz,hsz']; exact hz)
   rename_i a items n a' items' n'
   have hh:VRs s.heap σ.own (l++r) (items++items').toList:=by rw [Array.toList_append]; exact hl.append hl'
   exact k _ _ σ _ h (S.push _) (VR.newLst S hh) (.push _)
end
end Mine
end SM10
section SM11
open PySem PySem.Calls PyProof.Rows
namespace Mine
def Weak (g:Gl) (F:Fm) (σ σ':AS):Prop:=∀ s,Sat g F σ s→Sat g F σ' s∧Stp [] σ.own s σ'.own s
theorem J.weak {g:Gl} {A:Around} {F:Fm} {σ σ':AS} {α β:Type} {R:Heap→List Addr→β→α→Prop} {fr:List Addr} {t:Sem α} {P:β→AS→Prop} (w:Weak g F σ σ') (x:J g A F fr R t σ' P):J g A F fr R t σ P :=
 fun s S Q E k=>let ⟨S',st⟩:=w s S; x s S' Q E fun a b σ'' s'' h S'' r st'=>k a b σ'' s'' h S'' r (st.up.trans st')
theorem J.post {g:Gl} {A:Around} {F:Fm} {fr:List Addr} {σ:AS} {α β:Type} {R:Heap→List Addr→β→α→Prop} {t:Sem α} {P P':β→AS→Prop}
  (hR:∀ {h own own' b a},(∀ x∈own',x∈own)→R h own b a→R h own' b a) (x:J g A F fr R t σ P') (w:∀ b σ₁,P' b σ₁→∃ σ₂,Weak g F σ₁ σ₂∧(∀ x∈σ₂.own,x∈σ₁.own)∧P b σ₂):J g A F fr R t σ P :=
 fun s S Q E k=>x s S Q E fun a b σ₁ s₁ h₁ S₁ r st₁=>by
  obtain ⟨σ₂,w₂,hs,hP⟩:=w b σ₁ h₁
  obtain ⟨S₂,st₂⟩:=w₂ s₁ S₁
  exact k a b σ₂ s₁ hP S₂ (hR hs r) (st₁.trans st₂.up)
section
variable {g:Gl} {A:Around} {F:Fm} {σ:AS} {s:Shared}
theorem Weak.refl:Weak g F σ σ:=fun s S=>⟨S,.refl⟩
theorem Weak.trans {σ₁ σ₂ σ₃:AS} (a:Weak g F σ₁ σ₂) (b:Weak g F σ₂ σ₃):Weak g F σ₁ σ₃:=fun s S =>
 let ⟨S₂,st₂⟩:=a s S; let ⟨S₃,st₃⟩:=b s S₂; ⟨S₃,st₂.trans st₃⟩
theorem Weak.loc {loc loc':List (Str × PV)} {z:List (Addr × MO)} (h:∀ x p,loc'.lookup x=some p→loc.lookup x=some p):Weak g F ⟨loc,z⟩ ⟨loc',z⟩:=fun s S =>
 ⟨⟨S.old,S.lim,S.os,S.bare,S.nd,S.lo,S.zs,S.fr,S.ns,S.nin,fun x p e=>S.loc x p (h x p e),S.cs,S.cl⟩,fun _ _ e _ _ _=>e,fun _ o e=>⟨o,e⟩,fun _ h=>.inl h,fun _ _ e=>e⟩
theorem own_sub {loc loc':List (Str × PV)} {pre post:List (Addr × MO)} {z:Addr × MO}:∀ a∈AS.own ⟨loc',pre++post⟩,a∈AS.own ⟨loc,pre++z :: post⟩:=fun a h=>by
 unfold AS.own at h ⊢
 simp only [List.flatMap_append,List.flatMap_cons,List.mem_append] at h ⊢
 rcases h with h | h
 ·exact .inl h
 ·exact .inr (.inr h)
theorem Weak.drop {loc:List (Str × PV)} {pre post:List (Addr × MO)} {z:Addr × MO}:Weak g F ⟨loc,pre++z :: post⟩ ⟨loc,pre++post⟩:=fun s S=>by
 have hsub:=own_sub (loc:=loc) (loc':=loc) (pre:=pre) (post:=post) (z:=z)
 have kp:Kp s.heap s.heap (AS.own ⟨loc,pre++z :: post⟩) (AS.own ⟨loc,pre++post⟩):=Kp.shrink hsub
 obtain ⟨n1,n2,n3⟩:=List.nodup_append.mp S.nd
 have nd2:(AS.own ⟨loc,pre++post⟩).Nodup:=by
  unfold AS.own at n2 ⊢
  simp only [List.flatMap_append,List.flatMap_cons] at n2 ⊢
  obtain ⟨a,b,c⟩:=List.nodup_append.mp n2
  obtain ⟨d,e,f⟩:=List.nodup_append.mp b
  exact List.nodup_append.mpr ⟨a,e,fun x hx y hy=>c x hx y (List.mem_append_right _ hy)⟩
 refine ⟨⟨S.old,S.lim,S.os,S.bare,List.nodup_append.mpr ⟨n1,nd2,fun a ha b hb=>n3 a ha b (hsub b hb)⟩,fun a ha=>S.lo a ?_,fun y hy=>(S.zs y ?_).mono kp fun _ _ _ e=>e,S.fr,S.ns,S.nin,fun x p e=>?_,S.cs,S.cl⟩,
  ⟨fun _ _ e _ _ _=>e,fun _ o e=>⟨o,e⟩,fun a ha=>.inl (hsub a ha),fun _ _ e=>e⟩⟩
 ·rcases List.mem_append.mp ha with h | h
  ·exact List.mem_append_left _ h
  ·exact List.mem_append_right _ (hsub a h)
 ·rcases List.mem_append.mp hy with h | h
  ·exact List.mem_append_left _ h
  ·exact List.mem_append_right _ (List.mem_cons_of_mem _ h)
 ·obtain ⟨v,h1,h2⟩:=S.loc x p e
  exact ⟨v,h1,h2.mono kp⟩
theorem Weak.freeze {loc:List (Str × PV)} {pre post:List (Addr × MO)} {D:Addr} {ps:List PV} {x:Str} (hx:loc.lookup x=some (.raw (.ref D))):Weak g F ⟨loc,pre++(D,.list ps) :: post⟩ ⟨setL x (.lst ps) loc,pre++post⟩:=fun s S=>by
 obtain ⟨S',st⟩:=Weak.drop s S
 refine ⟨⟨S'.old,S'.lim,S'.os,S'.bare,S'.nd,S'.lo,S'.zs,S'.fr,S'.ns,S'.nin,fun y p e=>?_,S'.cs,S'.cl⟩,st⟩
 rw [show (AS.mk (setL x (.lst ps) loc) (pre++post)).loc=setL x (.lst ps) loc from rfl,lookup_setL] at e
 by_cases hy:(y == x)=true
 ·rw [if_pos hy] at e
  cases e
  have:y=x:=eq_of_beq hy
  subst this
  obtain ⟨v,h1,h2⟩:=S'.loc y _ hx
  cases h2
  refine ⟨_,h1,?_⟩
  obtain ⟨items,n,h3,h4⟩:=S.zs (D,.list ps) (List.mem_append_right _ List.mem_cons_self)
  have hD:D∉AS.own ⟨loc,pre++post⟩:=fun q=>by
   obtain ⟨_,n2,_⟩:=List.nodup_append.mp S.nd
   unfold AS.own at n2 q
   simp only [List.flatMap_append,List.flatMap_cons,MO.addrs] at n2 q
   obtain ⟨a,b,c⟩:=List.nodup_append.mp n2
   rcases List.mem_append.mp q with q | q
   ·exact c D q D (by simp) rfl
   ·exact (List.nodup_cons.mp b).1 q
  exact .lst hD h3 (h4.mono (Kp.shrink own_sub))
 ·rw [if_neg hy] at e
  exact S'.loc y p e
theorem EXs_weak {σ':AS} {sts:List Stmt} {P:Fl→AS→Prop} (w:Weak g F σ σ') (h:EXs g A F sts σ' P):EXs g A F sts σ P:=J.weak w h
variable {P:PV→AS→Prop}
theorem EV_Or {e₁ e₂:Expr} {pos:Pos} (h:EV g A F e₁ σ fun p σ₁=>TT g A F p σ₁ fun b σ₂=>if b=true then P p σ₂ else EV g A F e₂ σ₂ P):EV g A F (.BoolOp .Or [e₁,e₂] pos) σ P:=by
 intro s S Q E k
 refine BoolOp_or (h s S _ E fun v p σ₁ s₁ h₁ S₁ hv st₁=>?_)
 refine h₁ s₁ v S₁ hv _ E fun b σ₂ s₂ h₂ S₂ st₂=>?_
 cases b with
 | true=>exact k v p σ₂ s₂ h₂ S₂ (hv.mono (S₁.kp st₂)) (st₁.trans st₂)
 | false=>exact BoolOp_one (h₂ s₂ S₂ Q E fun a q σ₃ s₃ h₃ S₃ hr st₃=>k a q σ₃ s₃ h₃ S₃ hr (st₁.trans (st₂.trans st₃)))
theorem EV_And {e₁ e₂:Expr} {pos:Pos} (h:EV g A F e₁ σ fun p σ₁=>TT g A F p σ₁ fun b σ₂=>if b=true then EV g A F e₂ σ₂ P else P p σ₂):EV g A F (.BoolOp .And [e₁,e₂] pos) σ P:=by
 intro s S Q E k
 refine BoolOp_and (h s S _ E fun v p σ₁ s₁ h₁ S₁ hv st₁=>?_)
 refine h₁ s₁ v S₁ hv _ E fun b σ₂ s₂ h₂ S₂ st₂=>?_
 cases b with
 | false=>exact k v p σ₂ s₂ h₂ S₂ (hv.mono (S₁.kp st₂)) (st₁.trans st₂)
 | true=>exact BoolOp_one (h₂ s₂ S₂ Q E fun a q σ₃ s₃ h₃ S₃ hr st₃=>k a q σ₃ s₃ h₃ S₃ hr (st₁.trans (st₂.trans st₃)))
def JP (g:Gl) (A:Around) (F:Fm) (out:List Nat) (es:List Expr) (σ:AS) (P:PV→AS→Prop):Prop:=J g A F [] VR (joinParts (ofL out) (evalEach es F.env)) σ P
theorem EV_Joined {v₁ v₂:Expr} {rest:List Expr} {pos:Pos} (h:JP g A F [] (v₁ :: v₂ :: rest) σ P):EV g A F (.JoinedStr (v₁ :: v₂ :: rest) pos) σ P:=h
theorem JP_nil {out:List Nat} (hs:out.length≤16777216) (h:P (tx out) σ):JP g A F out [] σ P:=fun s S Q E k =>
 joinParts_nil (k _ _ σ _ h (S.toks _) (.str _ _) .toks) (by rw [ofL_len]; exact hs)
theorem JP_cons {e:Expr} {es:List Expr} {out:List Nat} (h:EV g A F e σ fun p σ₁=>∃ y,p=tx y∧out.length + y.length≤16777216∧JP g A F (out++y) es σ₁ P):JP g A F out (e :: es) σ P:=by
 intro s S Q E k
 refine joinParts_cons (h s S _ E fun v p σ₁ s₁ h₁ S₁ hv st₁=>?_)
 obtain ⟨y,rfl,hz,h₂⟩:=h₁
 cases hv
 refine ⟨by rw [ofL_app,ofL_len,List.length_append]; exact hz,?_⟩
 rw [ofL_app]
 exact h₂ s₁ S₁ Q E fun a b σ₂ s₂ h₂ S₂ hr st₂=>k a b σ₂ s₂ h₂ S₂ hr (st₁.trans st₂)
theorem EV_Formatted {e:Expr} {pos:Pos} (h:EV g A F e σ fun p σ₁=>∃ y,p=tx y∧y.length≤16777216∧P (tx y) σ₁):EV g A F (.FormattedValue e (-1) none pos) σ P:=by
 intro s S Q E k
 refine FormattedValue_plain (h s S _ E fun v p σ₁ s₁ h₁ S₁ hv st₁=>?_)
 obtain ⟨y,rfl,hz,h₂⟩:=h₁
 cases hv
 exact formatField_str (fun t' tk=>k _ _ σ₁ _ h₂ (S₁.toks _) (.str _ _) (st₁.trans .toks)) (by rw [ofL_len]; exact hz)
theorem is_rr {a b:Value} (hp:plainIs a b=true) (h:P (.raw (.bool (a == b))) σ):OP2 g A F (compareOp .Is) (.raw a) (.raw b) σ P:=fun s v u S hv hu Q E k=>by
 cases hv; cases hu; exact wpAny_is_plain hp (k _ _ σ s h S (.raw _) .refl)
theorem is_ref_self {a:Addr} (h:P (.raw (.bool true)) σ):OP2 g A F (compareOp .Is) (.raw (.ref a)) (.raw (.ref a)) σ P:=fun s v u S hv hu Q E k=>by
 cases hv; cases hu; exact wpAny_is_ref_self (k _ _ σ s h S (.raw _) .refl)
theorem isNot_ref_self {a:Addr} (h:P (.raw (.bool false)) σ):OP2 g A F (compareOp .IsNot) (.raw (.ref a)) (.raw (.ref a)) σ P:=fun s v u S hv hu Q E k=>by
 cases hv; cases hu; exact wpAny_isNot_ref_self (k _ _ σ s h S (.raw _) .refl)
theorem isNot_t_ref {l:List Nat} {a:Addr} (h:P (.raw (.bool true)) σ):OP2 g A F (compareOp .IsNot) (tx l) (.raw (.ref a)) σ P:=fun s v u S hv hu Q E k=>by
 cases hv; cases hu; exact wpAny_isNot_other rfl (by simp) (k _ _ σ s h S (.raw _) .refl)
theorem Sat.keeps (S:Sat g F σ s) {h':Heap} {tk:Nat} (hk:∀ b o,s.heap.get? b=some o→h'.get? b=some o):Sat g F σ { s with heap:=h',toks:=tk }:=by
 have kp:Kp s.heap h' σ.own σ.own:=fun b o xs n e _ no=>⟨hk b o e,no⟩
 refine ⟨S.old.step_keeps hk,S.lim.keeps hk,S.os,S.bare,S.nd,S.lo,fun z hz=>(S.zs z hz).mono kp fun b _ o e=>hk b o e,fun a ha=>let ⟨o,e,fl⟩:=S.fr a ha; ⟨o,hk a o e,fl⟩,?_,S.nin,fun x p e=>?_,S.cs,S.cl.to fun b o e _=>hk b o e⟩
 ·obtain ⟨m,o,es,ep,e,r⟩:=S.ns
  exact ⟨m,o,es,ep,hk _ _ e,r⟩
 ·obtain ⟨v,h1,h2⟩:=S.loc x p e
  exact ⟨v,h1.ext fun b o e _=>hk b o e,h2.mono kp⟩
theorem Stp.keeps {fr own:List Addr} {h':Heap} {tk:Nat} (hk:∀ b o,s.heap.get? b=some o→h'.get? b=some o):Stp fr own s own { s with heap:=h',toks:=tk } :=
 ⟨fun b o e _ _ _=>hk b o e,fun b o e=>⟨o,hk b o e⟩,fun _ h=>.inl h,fun _ _ e=>e⟩
theorem intsOf {h:Heap} {own:List Addr}:∀ {ns:List Int} {vs:List Value},VRs h own (ns.map .int) vs→IntsAre vs ns
 | [],_,x=>by cases x; exact .nil
 | n :: ns,_,x=>by
  cases x with
  | cons hv hs=>cases hv; exact .cons _ _ (intsOf hs)
theorem ints_pairs:∀ {vs:List Value} {ns:List Int},IntsAre vs ns→∃ xs:List (Int × Tok),vs=xs.map (fun p=>Value.int p.1 p.2)∧ns=xs.map (·.1)
 | _,_,.nil=>⟨[],rfl,rfl⟩
 | _,_,.cons n t r=>by
  obtain ⟨xs,h1,h2⟩:=ints_pairs r
  exact ⟨(n,t) :: xs,by rw [h1]; rfl,by rw [h2]; rfl⟩
theorem CL_sum_l {ns:List Int} (hr:Rm A 0) (h:P (.int ns.sum) σ):CL g A F (.builtin "sum") [.lst (ns.map .int)] σ P:=fun s vs S hvs Q E k=>by
 cases hvs with | cons hv hs'=>cases hs'; cases hv with | lst ha ho hl =>
  rename_i a items n
  obtain ⟨xs,h1,h2⟩:=ints_pairs (intsOf hl)
  have e:items=intItems xs.toArray:=by
   apply Array.ext'
   rw [h1]; simp [intItems]
  subst e
  refine sum_intListG hr.handled ⟨_,ho,rfl,_,rfl⟩ fun h' tk t' hk=>?_
  have e2:preSum (numAt xs.toArray) xs.toArray.size=ns.sum:=by
   rw [preSum_eq,List.take_of_length_le (by simp),h2]
  rw [e2]
  exact k _ _ σ _ h (S.keeps hk) (.int _ _) (.keeps hk)
theorem byteArr_map (ns:List Nat):byteArr (ns.map fun (n:Nat)=>(n:Int))=(ns.map fun n=>n.toUInt8).toArray:=by
 simp [byteArr]
theorem CL_bytes_l {ns:List Nat} (hr:Rm A 0) (hb:∀ n∈ns,n < 256) (hz:ns.length≤16777216) (h:P (.byt (ns.map fun n=>n.toUInt8).toArray) σ):CL g A F (.type "bytes") [.lst (ns.map fun (n:Nat)=>.int n)] σ P:=fun s vs S hvs Q E k=>by
 cases hvs with | cons hv hs'=>cases hs'; cases hv with | lst ha ho hl =>
  rename_i a items n
  have hl':VRs s.heap σ.own ((ns.map fun (n:Nat)=>(n:Int)).map .int) items.toList:=by rw [List.map_map]; exact hl
  have hi:=intsOf hl'
  have hlen:=hi.length
  rw [List.length_map] at hlen
  refine call_bytes_ints (vs:=items.toList) ⟨_,ho,rfl,n,rfl⟩ hi (fun i hi'=>?_) (by have:sizeLine=16777216:=rfl; omega) hr.handled fun h' t tk hk=>?_
  ·obtain ⟨m,hm,rfl⟩:=List.mem_map.mp hi'
   have:=hb m hm
   omega
  ·rw [byteArr_map]
   exact k _ _ σ _ h (S.keeps hk) (.byt _ _) (.keeps hk)
theorem CL_bytes_z {D:Addr} {ns:List Nat} (hr:Rm A 0) (hzn:(D,.list (ns.map fun (n:Nat)=>.int n))∈σ.zone) (hb:∀ n∈ns,n < 256) (hz:ns.length≤16777216) (h:P (.byt (ns.map fun n=>n.toUInt8).toArray) σ):CL g A F (.type "bytes") [.raw (.ref D)] σ P:=fun s vs S hvs Q E k=>by
 cases hvs with
 | cons hv hs' =>
  cases hs'; cases hv
  obtain ⟨items,n,ho,hl⟩:=S.zs _ hzn
  have hl':VRs s.heap σ.own ((ns.map fun (n:Nat)=>(n:Int)).map .int) items.toList:=by rw [List.map_map]; exact hl
  have hi:=intsOf hl'
  have hlen:=hi.length
  rw [List.length_map] at hlen
  refine call_bytes_ints (vs:=items.toList) ⟨_,ho,rfl,n,rfl⟩ hi (fun i hi'=>?_) (by have:sizeLine=16777216:=rfl; omega) hr.handled fun h' t tk hk=>?_
  ·obtain ⟨m,hm,rfl⟩:=List.mem_map.mp hi'
   have:=hb m hm
   omega
  ·rw [byteArr_map]
   exact k _ _ σ _ h (S.keeps hk) (.byt _ _) (.keeps hk)
theorem CL_type_b {b:Array UInt8} (h:P (.raw (.type "bytes")) σ):CL g A F (.type "type") [.byt b] σ P:=fun s vs S hvs Q E k=>by
 cases hvs with | cons hv hs'=>cases hs'; cases hv; exact call_type_of (PySem.W.typeIs_bytes _ _ _) (by decide) (k _ _ σ s h S (.raw _) .refl)
theorem CL_type_bool {b:Bool} (h:P (.raw (.type "bool")) σ):CL g A F (.type "type") [.raw (.bool b)] σ P:=fun s vs S hvs Q E k=>by
 cases hvs with | cons hv hs'=>cases hs'; cases hv; exact call_type_of (Tx:="bool") rfl (by decide) (k _ _ σ s h S (.raw _) .refl)
theorem CL_isinst_str {l:List Nat} (h:P (.raw (.bool true)) σ):CL g A F (.builtin "isinstance") [tx l,.raw (.type "str")] σ P:=fun s vs S hvs Q E k=>by
 cases hvs with | cons hv hs'=>cases hs' with | cons hu hs'=>cases hs'; cases hv; cases hu; exact PySem.IsiPair.str_str (k _ _ σ s h S (.raw _) .refl)
theorem MT_list {D:Addr} {l:List PV} {name:Str} {id:String} (hz:(D,.list l)∈σ.zone) (slot:Slot "list" name id) (ty:typeOf (.builtin id)=pure (.type "method_descriptor")):MT g A F (.raw (.ref D)) name id σ:=fun s v S hv pl Q E k=>by
 cases hv
 obtain ⟨items,n,ho,hl⟩:=S.zs _ hz
 exact getMethod_list_of slot ty ⟨_,ho,rfl,_,rfl⟩ ⟨_,ho,rfl⟩ (k _)
theorem CL_append {D:Addr} {ps:List PV} {zone':List (Addr × MO)} {p:PV} (U:ZAt D (.list ps) (.list (ps++[p])) σ.zone zone') (hlen:ps.length≤1000000) (h:P (.raw .none) ⟨σ.loc,zone'⟩):CL g A F (.builtin "list.append") [.raw (.ref D),p] σ P:=fun s vs S hvs Q E k=>by
 cases hvs with | cons hv hs'=>cases hs' with | cons hu hs'=>cases hs'; cases hv; exact append_zone S U hu hlen fun s' S' st'=>k _ _ _ s' h S' (.raw _) st'
theorem MT_append {D:Addr} {l:List PV} (hz:(D,.list l)∈σ.zone):MT g A F (.raw (.ref D)) "append" "list.append" σ:=MT_list hz slot_list_append type_list_append
theorem SLC_z_new {D:Addr} {l:List PV} {lo hi:Option Int} (hz':(D,.list l)∈σ.zone) (hz:l.length≤16777216) (h:∀ D',P (.raw (.ref D')) ⟨σ.loc,(D',.list (sl l lo hi)) :: σ.zone⟩):SLC g A F (.raw (.ref D)) lo hi σ P:=fun s v S hv=>by
 cases hv
 obtain ⟨items,n,ho,hl⟩:=S.zs _ hz'
 have hsz:=hl.toArray
 refine ⟨"list",_,list_getitem_lookup,⟨_,ho,rfl⟩,fun a vl vu hs hl' hu Q E k=>?_⟩
 refine wpAny_getItem_list_slice ⟨_,ho,rfl,_,rfl⟩ hs hl' hu .none (by simp) ?_ (by rw [hsz]; exact hz)
 obtain ⟨S₂,st₂⟩:=S.newList (hl.sl lo hi)
 exact k _ _ _ _ (h _) S₂ (.raw _) st₂
end
end Mine
end SM11
section SM12
open PySem PySem.Calls PyProof.Rows
namespace Mine
section
variable {g:Gl} {A:Around} {F:Fm} {σ:AS} {s:Shared}
theorem Weak.dropAll {loc:List (Str × PV)}:∀ {pre post:List (Addr × MO)},Weak g F ⟨loc,pre++post⟩ ⟨loc,post⟩
 | [],_=>Weak.refl
 | z :: pre,post=>Weak.trans (Weak.drop (pre:=[]) (post:=pre++post) (z:=z)) (Weak.dropAll (pre:=pre))
theorem own_suffix {loc loc':List (Str × PV)} {pre post:List (Addr × MO)}:∀ a∈AS.own ⟨loc',post⟩,a∈AS.own ⟨loc,pre++post⟩:=fun a h=>by
 unfold AS.own at h ⊢
 simp only [List.flatMap_append,List.mem_append] at h ⊢
 exact .inr h
theorem FlR.mono {h h':Heap} {own own':List Addr} (k:Kp h h' own own') {fl:Fl} {f:Flow} (x:FlR h own fl f):FlR h' own' fl f:=by
 cases x with
 | next=>exact .next
 | brk=>exact .brk
 | cont=>exact .cont
 | ret hv=>exact .ret (hv.mono k)
def Ends (z:List (Addr × MO)) (P:PV→Prop) (fl:Fl) (σ':AS):Prop:=∃ pre,σ'.zone=pre++z∧P (match fl with | .ret p=>p | _=>.raw .none)
theorem CL_fnE {f:Addr} {fd:FuncData} {body:List Stmt} {xs:List Str} {ps:List PV} {P:PV→AS→Prop} {n:Nat} (hr:Rm A (n + 1)) (hf:FnAt g f fd body) (hx:xs.Nodup) (hlen:xs.length=ps.length)
  (hb:∀ vs:List Value,vs.length=ps.length→bindArgs fd ⟨vs,[]⟩=pure (xs.zip vs))
  (hcellB:(fd.scope.names.all fun x=>x.2 != .cell)=true) (hlocB:(xs.all fun x=>fd.scope.names.lookup x == some .local)=true)
  (h:∀ L,EXs g (A.deeper (callEnv fd L f)) (fnFm fd L f) body ⟨xs.zip ps,σ.zone⟩ (Ends σ.zone fun p=>P p σ)) :
  CL g A F (.ref f) ps σ P:=by
 refine CL_fn hr hf hx hlen hb hcellB hlocB fun L=>?_
 refine J.post (fun hs r=>r.mono (Kp.shrink hs)) (h L) ?_
 rintro fl ⟨loc,z⟩ ⟨pre,hz,hP⟩
 dsimp only at hz
 subst hz
 exact ⟨⟨loc,σ.zone⟩,Weak.dropAll,own_suffix,hP⟩
theorem CLC_fnZ {f:Addr} {fd:FuncData} {body:List Stmt} {xs:List Str} {ps:List PV} {P:PV→AS→Prop} {n:Nat} (hr:Rm A (n + 1)) (hf:FnAt g f fd body) (hx:xs.Nodup) (hlen:xs.length=ps.length)
  (hb:∀ vs:List Value,vs.length=ps.length→bindArgs fd ⟨vs,[]⟩=pure (xs.zip vs))
  (hcellB:(fd.scope.names.all fun x=>x.2 != .cell)=true) (hlocB:(xs.all fun x=>fd.scope.names.lookup x == some .local)=true)
  (h:∀ L,EXs g (A.deeper (callEnv fd L f)) (fnFm fd L f) body ⟨xs.zip ps,σ.zone⟩ fun fl σ'=>∃ pre z,σ'.zone=pre++z∧P (match fl with | .ret p=>p | _=>.raw .none) ⟨σ.loc,z⟩) :
  CLC g A F (.ref f) ps σ P:=by
 refine CLC_fn hr hf hx hlen hb hcellB hlocB fun L=>?_
 refine J.post (fun hs r=>r.mono (Kp.shrink hs)) (h L) ?_
 rintro fl ⟨loc,z⟩ ⟨pre,z',hz,hP⟩
 dsimp only at hz
 subst hz
 exact ⟨⟨loc,z'⟩,Weak.dropAll,own_suffix,hP⟩
theorem Ends.mk {z:List (Addr × MO)} {P:PV→Prop} {p:PV} {σ':AS} (pre:List (Addr × MO)) (hz:σ'.zone=pre++z) (h:P p):Ends z P (.ret p) σ':=⟨pre,hz,h⟩
end
end Mine
end SM12
section SM13
open PySem PySem.Calls PyProof.Rows
namespace Mine
inductive Sub (loc:List (Str × PV)):List (Str × PV)→Prop
 | nil:Sub loc []
 | cons {x:Str} {p:PV} {r:List (Str × PV)} (h:loc.lookup x=some p) (hr:Sub loc r):Sub loc ((x,p) :: r)
theorem Sub.get {loc loc':List (Str × PV)} (h:Sub loc loc'):∀ x p,loc'.lookup x=some p→loc.lookup x=some p:=by
 induction h with
 | nil=>intro x p e; simp at e
 | cons h hr ih =>
  intro x p e
  rw [List.lookup_cons] at e
  split at e
  ·rename_i q
   have:=eq_of_beq q
   subst this
   cases e; exact h
  ·exact ih x p e
theorem Sub.weak {g:Gl} {F:Fm} {loc loc':List (Str × PV)} {z:List (Addr × MO)} (h:Sub loc loc'):Weak g F ⟨loc,z⟩ ⟨loc',z⟩:=Weak.loc h.get
theorem Sub.weak' {g:Gl} {F:Fm} {σ:AS} {loc':List (Str × PV)} {z:List (Addr × MO)} (h:Sub σ.loc loc') (hz:σ.zone=z):Weak g F σ ⟨loc',z⟩:=by
 obtain ⟨loc,z'⟩:=σ
 dsimp only at hz h
 subst hz
 exact h.weak
section
variable {g:Gl} {A:Around} {F:Fm}
theorem AS1_weak {t:Expr} {p:PV} {σ σ':AS} {P:AS→Prop} (w:Weak g F σ σ') (hs:∀ x∈σ'.own,x∈σ.own) (h:AS1 g A F t p σ' P):AS1 g A F t p σ P:=fun s v S hv Q E k =>
 let ⟨S',st⟩:=w s S; h s v S' (hv.mono (Kp.shrink hs)) Q E fun σ'' s' hP S'' st'=>k σ'' s' hP S'' (st.up.trans st')
theorem ForP_ind {t:Expr} {body orelse:List Stmt} {P:Fl→AS→Prop} (Inv:List PV→AS→Prop)
  (hnil:∀ σ,Inv [] σ→EXs g A F orelse σ P)
  (hcons:∀ x xs σ,Inv (x :: xs) σ→AS1 g A F t x σ fun σ₁=>EXs g A F body σ₁ fun fl σ₂=>match fl with
   | .next | .cont=>∃ σ₃,Weak g F σ₂ σ₃∧(∀ x∈σ₃.own,x∈σ₂.own)∧Inv xs σ₃
   | .brk=>P .next σ₂
   | .ret p=>P (.ret p) σ₂):∀ xs σ,Inv xs σ→ForP g A F t body orelse xs σ P:=by
 have key:∀ xs σ σ',Weak g F σ σ'→(∀ x∈σ'.own,x∈σ.own)→Inv xs σ'→ForP g A F t body orelse xs σ P:=by
  intro xs
  induction xs with
  | nil=>intro σ σ' w hs h; exact J.weak w (hnil σ' h)
  | cons x xs ih =>
   intro σ σ' w hs h
   refine AS1_weak w hs ?_
   intro s v S hv Q E k
   refine hcons x xs σ' h s v S hv Q E fun σ₁ s₁ h₁ S₁ st₁=>k σ₁ s₁ ?_ S₁ st₁
   refine J.mono h₁ ?_
   intro fl σ₂ h₂
   cases fl with
   | next=>obtain ⟨σ₃,w₃,hs₃,h₃⟩:=h₂; exact ih σ₂ σ₃ w₃ hs₃ h₃
   | cont=>obtain ⟨σ₃,w₃,hs₃,h₃⟩:=h₂; exact ih σ₂ σ₃ w₃ hs₃ h₃
   | brk=>exact h₂
   | ret p=>exact h₂
 exact fun xs σ h=>key xs σ σ Weak.refl (fun _ h=>h) h
theorem EX_While_ind {test:Expr} {body orelse:List Stmt} {pos:Pos} {P:Fl→AS→Prop} {σ:AS} (Inv:Nat→AS→Prop) (n:Nat) (h0:Inv n σ)
  (hstep:∀ n σ,Inv n σ→TR g A F test σ fun b σ₁=>if b=true then EXs g A F body σ₁ fun fl σ₂=>(match fl with
   | .next | .cont=>∃ m σ₃,m < n∧Weak g F σ₂ σ₃∧Inv m σ₃
   | .brk=>P .next σ₂
   | .ret p=>P (.ret p) σ₂) else EXs g A F orelse σ₁ P):EX g A F (.While test body orelse pos) σ P:=by
 have key:∀ N n σ σ',n < N→Weak g F σ σ'→Inv n σ'→WhP g A F test body orelse N σ P:=by
  intro N
  induction N with
  | zero=>intro n σ σ' h; omega
  | succ N ih =>
   intro n σ σ' hn w h
   show TR g A F test σ _
   refine J.weak w ?_
   refine J.mono (hstep n σ' h) ?_
   intro b σ₁ h₁
   cases b with
   | false=>exact h₁
   | true =>
    refine J.mono h₁ ?_
    intro fl σ₂ h₂
    cases fl with
    | next=>obtain ⟨m,σ₃,hm,w₃,h₃⟩:=h₂; exact ih m σ₂ σ₃ (by omega) w₃ h₃
    | cont=>obtain ⟨m,σ₃,hm,w₃,h₃⟩:=h₂; exact ih m σ₂ σ₃ (by omega) w₃ h₃
    | brk=>exact h₂
    | ret p=>exact h₂
 exact EX_While (n + 1) (key (n + 1) n σ σ (Nat.lt_succ_self _) Weak.refl h0)
theorem CompP_weak {D:Addr} {elt target:Expr} {ifs:List Expr} {P:List PV→List (Addr × MO)→Prop} {loc loc':List (Str × PV)} {z:List (Addr × MO)} (h:Sub loc loc') :
  ∀ {xs acc},CompP g A F D elt target ifs xs acc ⟨loc',z⟩ P→CompP g A F D elt target ifs xs acc ⟨loc,z⟩ P
 | [],_,h'=>h'
 | x :: xs,_,h'=>AS1_weak h.weak (fun _ h=>h) h'
theorem CompP_map {D:Addr} {elt target:Expr} {P:List PV→List (Addr × MO)→Prop} {cap:List (Str × PV)} {z:List (Addr × MO)} (f:PV→PV) :
  ∀ {xs:List PV} {acc:List PV},(∀ x∈xs,∀ acc,AS1 g A F target x ⟨cap,(D,.list acc) :: z⟩ fun σ₁=>EV g A F elt σ₁ fun p σ₂=>p=f x∧σ₂.zone=(D,.list acc) :: z∧Sub σ₂.loc cap) →
   acc.length + xs.length≤1000000→P (acc++xs.map f) z→CompP g A F D elt target [] xs acc ⟨cap,(D,.list acc) :: z⟩ P
 | [],acc,h,hl,hP=>⟨z,rfl,by simpa using hP⟩
 | x :: xs,acc,h,hl,hP=>by
  intro s v S hv Q E k
  refine h x List.mem_cons_self acc s v S hv Q E fun σ₁ s₁ h₁ S₁ st₁=>k σ₁ s₁ ?_ S₁ st₁
  refine TST_nil ?_
  rw [if_pos rfl]
  refine J.mono h₁ ?_
  rintro p σ₂ ⟨rfl,hz,hsub⟩
  refine ⟨z,hz,by simp at hl; omega,?_⟩
  refine CompP_weak hsub ?_
  exact CompP_map f (fun x hx acc=>h x (List.mem_cons_of_mem _ hx) acc) (by simp at hl ⊢; omega) (by simpa using hP)
theorem CompP_filter {D:Addr} {elt target c:Expr} {P:List PV→List (Addr × MO)→Prop} {cap:List (Str × PV)} {z:List (Addr × MO)} (f:PV→PV) (t:PV→Bool) :
  ∀ {xs:List PV} {acc:List PV},(∀ x∈xs,∀ acc,AS1 g A F target x ⟨cap,(D,.list acc) :: z⟩ fun σ₁=>TR g A F c σ₁ fun b σ₂=>b=t x∧if b=true then EV g A F elt σ₂ fun p σ₃=>p=f x∧σ₃.zone=(D,.list acc) :: z∧Sub σ₃.loc cap else σ₂.zone=(D,.list acc) :: z∧Sub σ₂.loc cap) →
   acc.length + xs.length≤1000000→P (acc++(xs.filter t).map f) z→CompP g A F D elt target [c] xs acc ⟨cap,(D,.list acc) :: z⟩ P
 | [],acc,h,hl,hP=>⟨z,rfl,by simpa using hP⟩
 | x :: xs,acc,h,hl,hP=>by
  intro s v S hv Q E k
  refine h x List.mem_cons_self acc s v S hv Q E fun σ₁ s₁ h₁ S₁ st₁=>k σ₁ s₁ ?_ S₁ st₁
  refine TST_one ?_
  refine J.mono h₁ ?_
  rintro b σ₂ ⟨rfl,h₂⟩
  cases hb:t x with
  | true =>
   rw [hb] at h₂
   rw [if_pos rfl] at h₂ ⊢
   refine J.mono h₂ ?_
   rintro p σ₃ ⟨rfl,hz,hsub⟩
   refine ⟨z,hz,by simp at hl; omega,?_⟩
   refine CompP_weak hsub ?_
   refine CompP_filter f t (fun x hx acc=>h x (List.mem_cons_of_mem _ hx) acc) (by simp at hl ⊢; omega) ?_
   rw [List.filter_cons_of_pos hb] at hP
   simpa using hP
  | false =>
   rw [hb] at h₂
   rw [if_neg (by simp)] at h₂ ⊢
   obtain ⟨hz,hsub⟩:=h₂
   obtain ⟨loc₂,z₂⟩:=σ₂
   dsimp only at hz hsub
   subst hz
   refine CompP_weak hsub ?_
   refine CompP_filter f t (fun x hx acc=>h x (List.mem_cons_of_mem _ hx) acc) (by simp at hl ⊢; omega) ?_
   rw [List.filter_cons_of_neg (by simp [hb])] at hP
   exact hP
end
end Mine
end SM13
section SM14
open PySem PySem.Calls PyProof.Rows
namespace Mine
theorem bindL_not {kindOf:Str→Option NameKind} {x:Str}:∀ {binds:List (Str × Value)} {m:Str→Option Value},x∉binds.map (·.1)→bindL kindOf binds m x=m x
 | [],m,_=>rfl
 | (n,v) :: r,m,h=>by
  simp only [List.map_cons,List.mem_cons,not_or] at h
  unfold bindL
  rw [bindL_not h.2]
  split
  ·exact if_neg h.1
  ·rfl
theorem bindL_get {kindOf:Str→Option NameKind} {x:Str} {v:Value} (hk:kindOf x=some .local):∀ {binds:List (Str × Value)} {m:Str→Option Value},(binds.map (·.1)).Nodup→binds.lookup x=some v→bindL kindOf binds m x=some v
 | [],m,_,h=>by simp at h
 | (n,w) :: r,m,hn,h=>by
  simp only [List.map_cons,List.nodup_cons] at hn
  rw [List.lookup_cons] at h
  unfold bindL
  split at h
  ·rename_i q
   have:=eq_of_beq q
   subst this
   cases h
   rw [bindL_not hn.1,if_pos hk,if_pos rfl]
  ·exact bindL_get hk hn.2 h
theorem bindC_not {kindOf:Str→Option NameKind} {x:Str}:∀ {binds:List (Str × Value)} {m:Str→Option Value},x∉binds.map (·.1)→bindC kindOf binds m x=m x
 | [],m,_=>rfl
 | (n,v) :: r,m,h=>by
  simp only [List.map_cons,List.mem_cons,not_or] at h
  unfold bindC
  rw [bindC_not h.2]
  split
  ·rfl
  ·exact if_neg h.1
theorem bindC_get {kindOf:Str→Option NameKind} {x:Str} {v:Value} (hk:kindOf x≠some .local):∀ {binds:List (Str × Value)} {m:Str→Option Value},(binds.map (·.1)).Nodup→binds.lookup x=some v→bindC kindOf binds m x=some v
 | [],m,_,h=>by simp at h
 | (n,w) :: r,m,hn,h=>by
  simp only [List.map_cons,List.nodup_cons] at hn
  rw [List.lookup_cons] at h
  unfold bindC
  split at h
  ·rename_i q
   have:=eq_of_beq q
   subst this
   cases h
   rw [bindC_not hn.1,if_neg hk,if_pos rfl]
  ·exact bindC_get hk hn.2 h
theorem cells_isSome {x:Str}:∀ (names:List (Str × NameKind)) (n:Nat) (acc:List (Str × Addr)),((x,NameKind.cell)∈names∨(acc.lookup x).isSome=true)→((cellsFrom n names acc).lookup x).isSome=true
 | [],n,acc,h=>by
  rcases h with h | h
  ·simp at h
  ·exact h
 | (nm,k) :: r,n,acc,h=>by
  unfold cellsFrom
  split
  ·refine cells_isSome r (n + 1) _ ?_
   rw [List.lookup_cons]
   by_cases q:(x == nm)=true
   ·right; rw [q]; rfl
   ·have q':(x == nm)=false:=by simpa using q
    rw [q']
    rcases h with h | h
    ·rcases List.mem_cons.mp h with e | h
     ·cases e; simp at q
     ·exact .inl h
    ·exact .inr h
  ·rename_i hk
   refine cells_isSome r n acc ?_
   rcases h with h | h
   ·rcases List.mem_cons.mp h with e | h
    ·cases e; exact absurd rfl hk
    ·exact .inl h
   ·exact .inr h
theorem lookup_of_mem {α:Type}:∀ {l:List (Str × α)} {n:Str} {c:α},(l.map (·.1)).Nodup→(n,c)∈l→l.lookup n=some c
 | (m,d) :: r,n,c,hn,h=>by
  simp only [List.map_cons,List.nodup_cons] at hn
  rw [List.lookup_cons]
  rcases List.mem_cons.mp h with e | h'
  ·cases e; rw [beq_self_eq_true]
  ·have:(n == m)=false:=by
    rw [beq_eq_false_iff_ne]
    rintro rfl
    exact hn.1 (List.mem_map.mpr ⟨(n,c),h',rfl⟩)
   rw [this]
   exact lookup_of_mem hn.2 h'
theorem cells_above:∀ (names:List (Str × NameKind)) (n lo:Nat) (acc:List (Str × Addr)),lo≤n→(∀ z∈acc,lo≤z.2)→∀ z∈cellsFrom n names acc,lo≤z.2
 | [],_,_,_,_,h=>h
 | (nm,k) :: r,n,lo,acc,hn,h=>by
  unfold cellsFrom
  split
  ·exact cells_above r (n + 1) lo _ (by omega) fun z hz=>by
    rcases List.mem_cons.mp hz with rfl | hz
    ·exact hn
    ·exact h z hz
  ·exact cells_above r n lo acc hn h
theorem cells_apart:∀ (names:List (Str × NameKind)) (n:Nat) (acc:List (Str × Addr)),(∀ z∈acc,z.2 < n)→(acc.Pairwise fun x y=>x.2≠y.2)→(cellsFrom n names acc).Pairwise fun x y=>x.2≠y.2
 | [],_,_,_,h=>h
 | (nm,k) :: r,n,acc,hn,h=>by
  unfold cellsFrom
  split
  ·refine cells_apart r (n + 1) _ (fun z hz=>?_) (List.pairwise_cons.mpr ⟨fun z hz q=>?_,h⟩)
   ·rcases List.mem_cons.mp hz with rfl | hz
    ·exact Nat.lt_succ_self _
    ·exact Nat.lt_succ_of_lt (hn z hz)
   ·have:=hn z hz
    exact Nat.lt_irrefl _ (q ▸ this)
  ·exact cells_apart r n acc hn h
theorem cells_keys:∀ (names:List (Str × NameKind)) (n:Nat) (acc:List (Str × Addr)),(cellsFrom n names acc).map (·.1)=((names.filter fun x=>x.2 == .cell).map (·.1)).reverse++acc.map (·.1)
 | [],_,_=>by simp [cellsFrom]
 | (nm,k) :: r,n,acc=>by
  unfold cellsFrom
  split
  ·rename_i hk
   rw [cells_keys r,List.filter_cons_of_pos (p:=fun x:Str × NameKind=>x.2 == .cell) hk]
   simp
  ·rename_i hk
   rw [cells_keys r,List.filter_cons_of_neg (p:=fun x:Str × NameKind=>x.2 == .cell) hk]
def fnCells (fd:FuncData) (L:Addr):List (Str × Addr):=cellsFrom (L + 1) fd.scope.names []
def fnFmC (fd:FuncData) (L f:Addr):Fm:=⟨callEnvC fd L f,L :: (fnCells fd L).map (·.2)⟩
section
variable {g:Gl} {A:Around} {F:Fm} {σ:AS} {s:Shared}
theorem CL_fnC {f:Addr} {fd:FuncData} {body:List Stmt} {xs:List Str} {ps:List PV} {P:PV→AS→Prop} {n:Nat} (hr:Rm A (n + 1)) (hf:FnAt g f fd body) (hclo:fd.closure=[]) (hx:xs.Nodup) (hlen:xs.length=ps.length)
  (hb:∀ vs:List Value,vs.length=ps.length→bindArgs fd ⟨vs,[]⟩=pure (xs.zip vs))
  (hlocB:(xs.all fun x=>fd.scope.names.lookup x == some .local || fd.scope.names.lookup x == some .cell)=true)
  (hckB:decide (((fd.scope.names.filter fun x=>x.2 == .cell).map (·.1)).Nodup)=true)
  (h:∀ L,EXs g (A.deeper (callEnvC fd L f)) (fnFmC fd L f) body ⟨xs.zip ps,σ.zone⟩ (Ends σ.zone fun p=>P p σ)) :
  CL g A F (.ref f) ps σ P:=by
 intro s vs S hvs Q E k
 have hck:∀ L,((fnCells fd L).map (·.1)).Nodup:=fun L=>by
  unfold fnCells
  rw [cells_keys]
  have h:=of_decide_eq_true hckB
  rw [List.map_nil,List.append_nil]
  exact List.pairwise_reverse.mpr (h.imp fun a=>Ne.symm a)
 have hloc:∀ x∈xs,fd.scope.names.lookup x=some .local∨fd.scope.names.lookup x=some .cell:=fun x hx=>by simpa using List.all_eq_true.mp hlocB x hx
 obtain ⟨o,e,hd⟩:=hf.now S
 have hlv:=hvs.length
 have hkeys:((xs.zip vs).map (·.1))=xs:=by rw [List.map_fst_zip]; omega
 refine wpAny_call (codeAny_call_cells (hr.le (Nat.zero_le _)).depth e hd S.lim (hf.codeRec S) hf.bd (hb vs hlv) hclo (fun x hx'=>?_) (fun s₁ x=>?_) hf.co hf.gen hf.kind)
 ·rcases hloc _ (List.of_mem_zip hx').1 with q | q
  ·exact .inl q
  ·exact .inr ⟨q,cells_isSome _ _ _ (.inl (mem_of_lookup q))⟩
 ·obtain ⟨h₀,tk,rfl,hk⟩:=x.done
  have hn:=x.toInCall.ns
  have hLo:s.heap.objs.size∉σ.own:=fun h=>Nat.lt_irrefl _ (S.own_lt h)
  have habove:∀ c∈(fnCells fd s.heap.objs.size).map (·.2),s.heap.objs.size < c:=fun c hc=>by
   obtain ⟨⟨nm,c'⟩,hm,rfl⟩:=List.mem_map.mp hc
   exact x.above nm c' hm
  have hcell:∀ c∈(fnCells fd s.heap.objs.size).map (·.2),∃ v,h₀.IsCell c v:=fun c hc=>by
   obtain ⟨⟨nm,c'⟩,hm,rfl⟩:=List.mem_map.mp hc
   exact ⟨_,x.cell nm c' (lookup_of_mem (hck _) hm)⟩
  have hdist:((fnCells fd s.heap.objs.size).map (·.2)).Nodup:=by
   have:=x.apart
   exact List.pairwise_map.mpr this
  have kp:Kp s.heap h₀ σ.own σ.own:=fun b o xs n e _ no=>⟨hk b o e,no⟩
  have S₀:Sat g (fnFmC fd s.heap.objs.size f) ⟨xs.zip ps,σ.zone⟩ { s with heap:=h₀,toks:=tk }:=by
   refine ⟨S.old.step_keeps hk,S.lim.keeps hk,S.os,S.bare,?_,fun a ha=>?_,fun z hz=>(S.zs z hz).mono kp fun b _ o e=>hk b o e,fun a ha=>?_,⟨_,hn⟩,List.mem_cons_self,fun y p ey=>?_,S.cs,fun y c hy hc hfr hl=>?_⟩
   ·show ((s.heap.objs.size :: (fnCells fd s.heap.objs.size).map (·.2))++σ.own).Nodup
    refine List.nodup_append.mpr ⟨List.nodup_cons.mpr ⟨fun q=>Nat.lt_irrefl _ (habove _ q),hdist⟩,(List.nodup_append.mp S.nd).2.1,fun a ha b hb q=>?_⟩
    subst q
    have hlt:=S.own_lt hb
    rcases List.mem_cons.mp ha with rfl | ha
    ·exact Nat.lt_irrefl _ hlt
    ·exact Nat.lt_irrefl _ (Nat.lt_trans hlt (habove _ ha))
   ·rcases List.mem_append.mp ha with h | h
    ·rcases List.mem_cons.mp h with rfl | h
     ·exact S.base_le
     ·exact Nat.le_of_lt (Nat.lt_of_le_of_lt S.base_le (habove _ h))
    ·exact S.lo a (List.mem_append_right _ h)
   ·rcases List.mem_cons.mp ha with rfl | h
    ·obtain ⟨o,es,ep,e,d,_⟩:=hn
     exact ⟨o,e,.inl ⟨es,ep,d⟩⟩
    ·obtain ⟨v,o,e,d⟩:=hcell a h
     exact ⟨o,e,.inr ⟨v,d⟩⟩
   ·obtain ⟨v,h1,h2⟩:=zip_lookup hvs ey
    have hm:y∈xs:=by
     have:=mem_of_lookup h1
     exact (List.of_mem_zip this).1
    refine ⟨v,?_,h2.mono kp⟩
    by_cases hl:fd.scope.names.lookup y=some .local
    ·exact .inl ⟨hl,_,hn,bindL_get hl (by rw [hkeys]; exact hx) h1⟩
    ·have hc:fd.scope.names.lookup y=some .cell:=(hloc y hm).resolve_left hl
     obtain ⟨c,hc'⟩:=Option.isSome_iff_exists.mp (cells_isSome fd.scope.names (s.heap.objs.size + 1) [] (.inl (mem_of_lookup hc)))
     obtain ⟨o,e,d⟩:=x.cell y c hc'
     refine .inr ⟨.inl hc,c,o,hc',e,?_⟩
     rw [d,bindC_get hl (by rw [hkeys]; exact hx) h1]
   ·rcases List.mem_cons.mp hfr with rfl | h
    ·exact absurd rfl hl
    ·obtain ⟨v,o,e,d⟩:=hcell c h
     exact ⟨o,e,v,d⟩
  refine h s.heap.objs.size _ S₀ _ _ fun fv fl σ' s' hP S' hr' st'=>?_
  obtain ⟨pre,hz,hP⟩:=hP
  have hne:∀ b o,s.heap.get? b=some o→b∉(fnFmC fd s.heap.objs.size f).fr:=fun b o e q=>by
   have hlt:=Heap.lt_size e
   rcases List.mem_cons.mp q with rfl | q
   ·exact Nat.lt_irrefl _ hlt
   ·exact Nat.lt_irrefl _ (Nat.lt_trans hlt (habove _ q))
  have stt:Stp [] σ.own s σ'.own s':=by
   refine ⟨fun b o e nf no hc=>st'.keep b o (hk b o e) (hne b o e) no hc,fun b o e=>st'.there b o (hk b o e),fun a ha=>?_,fun i x e=>st'.gens i x e⟩
   rcases st'.fresh a ha with q | q
   ·exact .inl q
   ·refine .inr ?_
    cases q':s.heap.get? a with
    | none=>rfl
    | some o=>rw [show _=_ from hk a o q'] at q; cases q
  have Sb:=S.back S' stt fun a ha o e=>by
   obtain ⟨o',e',fl⟩:=S.fr a ha
   rw [e] at e'; cases e'
   exact st'.keep a o (hk a o e) (hne a o e) (fun q=>(List.nodup_append.mp S.nd).2.2 a ha a q rfl) fl.hard
  obtain ⟨loc',z'⟩:=σ'
  dsimp only at hz
  subst hz
  obtain ⟨Sc,stc⟩:=Weak.dropAll (g:=g) (F:=F) (loc:=σ.loc) (pre:=pre) (post:=σ.zone) s' Sb
  have hr2:FlR s'.heap σ.own fl fv:=hr'.mono (Kp.shrink (own_suffix (loc:=loc') (loc':=σ.loc) (pre:=pre)))
  have stq:Stp [] σ.own s σ.own s':=stt.trans stc
  cases hr2 with
  | ret hv=>exact k _ _ σ s' hP Sc hv stq
  | next=>exact k _ _ σ s' hP Sc (.raw _) stq
  | brk=>exact k _ _ σ s' hP Sc (.raw _) stq
  | cont=>exact k _ _ σ s' hP Sc (.raw _) stq
theorem EX_Assign_Cell {x:Str} {pos' pos:Pos} {value:Expr} {P:Fl→AS→Prop} {fd:FuncData} {L f:Addr} (hk:FnEnv (fnFmC fd L f))
  (h:EV g A (fnFmC fd L f) value σ fun p σ₁=>P .next (σ₁.set x p)) (hx:(fnFmC fd L f).env.kindOf x=some .cell:=by with_unfolding_all rfl)
  (hs:swapsWith value (some (.Name x pos')) pos.line (fnFmC fd L f).env=pure false:=by with_unfolding_all rfl):EX g A (fnFmC fd L f) (.Assign [.Name x pos'] value pos) σ P:=by
 intro s S Q E k
 have hab:∀ c∈(fnCells fd L).map (·.2),L < c:=fun c hc=>by
  obtain ⟨z,hz,rfl⟩:=List.mem_map.mp hc
  exact cells_above fd.scope.names (L + 1) (L + 1) [] (Nat.le_refl _) (by simp) z hz
 have hap:(fnCells fd L).Pairwise fun x y=>x.2≠y.2:=cells_apart fd.scope.names (L + 1) [] (by simp) .nil
 refine wpAny_Assign_Name (h s S _ E fun v p σ₁ s₁ h₁ S₁ hv st₁=>?_) hs
 obtain ⟨c,hc'⟩:=Option.isSome_iff_exists.mp (cells_isSome fd.scope.names (L + 1) [] (.inl (mem_of_lookup hx)))
 have hmem:(x,c)∈fnCells fd L:=mem_of_lookup hc'
 have hcm:c∈(fnCells fd L).map (·.2):=List.mem_map.mpr ⟨_,hmem,rfl⟩
 obtain ⟨o,e,v₀,d⟩:=S₁.cl x c hx hc' (List.mem_cons_of_mem _ hcm) (Nat.ne_of_gt (hab c hcm))
 exact store_cell hk hx hc' (List.mem_cons_of_mem _ hcm) (fun y c' hy hne q=>hne (by subst q; exact name_of_addr hap (mem_of_lookup hy) hmem)) S₁ ⟨o,e,d⟩ hv fun s₂ S₂ st₂=>k _ _ _ s₂ h₁ S₂ .next (st₁.up.trans st₂)
end
end Mine
end SM14
section SM15
open PySem PySem.Calls PyProof.Rows
namespace Mine
section
variable {g:Gl} {A:Around} {F:Fm} {σ:AS} {s:Shared}
theorem store_cellC {x:Str} {v:Value} {p:PV} {Q:Unit→Shared→Prop} {E:Value→Shared→Prop} {fd:FuncData} {L f:Addr} (hk:FnEnv (fnFmC fd L f)) (hx:(fnFmC fd L f).env.kindOf x=some .cell) (S₁:Sat g (fnFmC fd L f) σ s) (hv:VR s.heap σ.own p v)
  (h:∀ s',Sat g (fnFmC fd L f) (σ.set x p) s'→Stp (fnFmC fd L f).fr σ.own s (σ.set x p).own s'→Q () s'):wpAny (model g.prog g.w) A (storeName (fnFmC fd L f).env x v) Q E s:=by
 have hab:∀ c∈(fnCells fd L).map (·.2),L < c:=fun c hc=>by
  obtain ⟨z,hz,rfl⟩:=List.mem_map.mp hc
  exact cells_above fd.scope.names (L + 1) (L + 1) [] (Nat.le_refl _) (by simp) z hz
 have hap:(fnCells fd L).Pairwise fun x y=>x.2≠y.2:=cells_apart fd.scope.names (L + 1) [] (by simp) .nil
 obtain ⟨c,hc'⟩:=Option.isSome_iff_exists.mp (cells_isSome fd.scope.names (L + 1) [] (.inl (mem_of_lookup hx)))
 have hmem:(x,c)∈fnCells fd L:=mem_of_lookup hc'
 have hcm:c∈(fnCells fd L).map (·.2):=List.mem_map.mpr ⟨_,hmem,rfl⟩
 obtain ⟨o,e,v₀,d⟩:=S₁.cl x c hx hc' (List.mem_cons_of_mem _ hcm) (Nat.ne_of_gt (hab c hcm))
 exact store_cell hk hx hc' (List.mem_cons_of_mem _ hcm) (fun y c' hy hne q=>hne (by subst q; exact name_of_addr hap (mem_of_lookup hy) hmem)) S₁ ⟨o,e,d⟩ hv h
theorem ASGs_cell {x:Str} {pos:Pos} {ts:List (Value→Sem Unit)} {p:PV} {ps:List PV} {P:AS→Prop} {fd:FuncData} {L f:Addr} (hk:FnEnv (fnFmC fd L f)) (h:ASGs g A (fnFmC fd L f) ts ps (σ.set x p) P) (hx:(fnFmC fd L f).env.kindOf x=some .cell:=by with_unfolding_all rfl) :
  ASGs g A (fnFmC fd L f) ((assign (.Name x pos) (fnFmC fd L f).env) :: ts) (p :: ps) σ P:=fun s vs S hvs Q E k=>by
 cases hvs with
 | cons hv hs =>
  show wpAny _ A (do holding _ (assign (.Name x pos) (fnFmC fd L f).env _); assignInOrder ts _) Q E s
  refine wpAny_bind (wpAny_holding (assign_Name (store_cellC hk hx S hv fun s₁ S₁ st₁=>?_)))
  exact h s₁ _ S₁ (hs.mono (S.kp st₁)) Q E fun σ' s' h' S' st'=>k σ' s' h' S' (st₁.trans st')
theorem Txt_mul (l:List Nat) (n:Int):Txt.mul (ofL l) n=ofL (List.replicate n.toNat l).flatten:=by
 have key:∀ (k:Nat) (acc:Array Nat),((List.replicate k l.toArray).foldl (·++·) acc).toList=acc.toList++(List.replicate k l).flatten:=by
  intro k
  induction k with
  | zero=>intro acc; simp
  | succ k ih=>intro acc; rw [List.replicate_succ,List.foldl_cons,ih,List.replicate_succ]; simp
 unfold Txt.mul
 split
 ·have:n.toNat=0:=by omega
  rw [this]; rfl
 ·split
  ·rename_i h0 h1
   simp only [Bool.or_eq_true,beq_iff_eq] at h1
   rcases h1 with h1 | h1
   ·subst h1; simp
   ·rw [ofL_len] at h1
    have:l=[]:=List.eq_nil_of_length_eq_zero h1
    subst this; simp
  ·apply Str.ext'
   show (List.replicate n.toNat l.toArray).foldl (·++·) #[]=(List.replicate n.toNat l).flatten.toArray
   apply Array.ext'
   rw [key]; simp
variable {P:PV→AS→Prop}
theorem mul_ti {l:List Nat} {n:Int} (hl:l.length≤1000) (h0:-1000≤n) (h1:n≤1000) (h:P (tx (List.replicate n.toNat l).flatten) σ):OP2 g A F (binaryOp .Mult) (tx l) (.int n) σ P:=by
 refine mul_si ?_ (by rw [Txt_mul]; exact h)
 refine ⟨?_,fun hn _=>?_,fun hn _=>?_⟩
 ·rw [decide_eq_false (by omega),decide_eq_false (by omega)]; rfl
 ·rw [ofL_len]
  have h2:(2 ^ 63 - 1:Int) / n ≥ 1000:=by
   rw [ge_iff_le,Int.le_ediv_iff_mul_le (by omega)]
   omega
  omega
 ·rw [ofL_len]
  unfold Builtin.Str.tooLong
  have h2:l.length * n.toNat≤1000 * 1000:=Nat.mul_le_mul hl (by omega)
  have:sizeLine=16777216:=rfl
  rw [decide_eq_false (by omega)]
theorem bits_lt {x:Int} {k:Nat} (h:x.natAbs < 2 ^ k):Builtin.Int.intBits x≤k:=by
 unfold Builtin.Int.intBits
 split
 ·exact Nat.zero_le _
 ·rename_i h0
  have h1:x.natAbs≠0:=by simpa using h0
  exact (Nat.log2_lt h1).mpr h
theorem mulOk_right {a b:Int} (h:b.natAbs < 2 ^ 64):IntMulOk a b:=IntMulOk.of_right (bits_lt h)
theorem pow_ok {a n:Int} {k:Nat} (h:a.natAbs < 2 ^ k) (h0:0≤n) (hk:(k:Int) * n≤134217728):(Builtin.Int.intBits a:Int) * n≤2 ^ 27:=by
 have h1:=bits_lt h
 have h2:(Builtin.Int.intBits a:Int) * n≤(k:Int) * n:=Int.mul_le_mul_of_nonneg_right (by omega) h0
 have h3:(2:Int) ^ 27=134217728:=by decide
 omega
end
end Mine
end SM15
section SM16
open PySem PySem.Calls PyProof.Rows
namespace Mine
inductive VPs (h:Heap) (own:List Addr):List (PV × PV)→List (Value × Value)→Prop
 | nil:VPs h own [] []
 | cons {p q:PV} {v u:Value} {ps:List (PV × PV)} {vs:List (Value × Value)} (hv:VR h own p v) (hu:VR h own q u) (hs:VPs h own ps vs):VPs h own ((p,q) :: ps) ((v,u) :: vs)
theorem VPs.mono {h h':Heap} {own own':List Addr} (k:Kp h h' own own') {ps:List (PV × PV)} {vs:List (Value × Value)} (x:VPs h own ps vs):VPs h' own' ps vs:=by
 induction x with
 | nil=>exact .nil
 | cons hv hu _ ih=>exact .cons (hv.mono k) (hu.mono k) ih
section
variable {g:Gl} {A:Around} {F:Fm} {σ:AS} {s:Shared}
def EVP (g:Gl) (A:Around) (F:Fm) (pos:Pos) (keys:List (Option Expr)) (values:List Expr) (σ:AS) (P:List (PV × PV)→AS→Prop):Prop:=J g A F [] VPs (evalPairs (pairTrees keys values F.env pos)) σ P
theorem EVP_nil {pos:Pos} {P:List (PV × PV)→AS→Prop} (h:P [] σ):EVP g A F pos [] [] σ P:=fun s S Q E k=>evalPairs_nil (k _ _ σ s h S .nil .refl)
theorem EVP_cons {pos:Pos} {k v:Expr} {ks:List (Option Expr)} {vs:List Expr} {P:List (PV × PV)→AS→Prop} (h:EV g A F k σ fun p σ₁=>EV g A F v σ₁ fun q σ₂=>EVP g A F pos ks vs σ₂ fun r σ₃=>P ((p,q) :: r) σ₃) :
  EVP g A F pos (some k :: ks) (v :: vs) σ P:=by
 intro s S Q E kk
 refine pairTrees_cons_walk (h s S _ E fun a p σ₁ s₁ h₁ S₁ hv st₁=>?_)
 refine h₁ s₁ S₁ _ E fun b q σ₂ s₂ h₂ S₂ hu st₂=>?_
 refine h₂ s₂ S₂ _ E fun r l σ₃ s₃ h₃ S₃ hr st₃=>?_
 exact kk _ _ σ₃ s₃ h₃ S₃ (.cons (hv.mono (S₁.kp (st₂.trans st₃))) (hu.mono (S₂.kp st₃)) hr) (st₁.trans (st₂.trans st₃))
theorem Sat.dictAt {C:Addr} {h':Heap} (S:Sat g F σ s) (hl:g.h₁.objs.size≤C) (hf:C∉F.fr) (ho:C∉σ.own) (hs:Heap.SameBut C s.heap h') (hd:∀ o',s.heap.get? C=some o'→∃ es n,o'.data=.dict es n) :
  Sat g F σ { s with heap:=h' }:=by
 have kp:Kp s.heap h' σ.own σ.own:=fun b o' xs n e' d' no=>⟨hs.extBut b o' (fun q=>by subst q; obtain ⟨_,_,q2⟩:=hd _ e'; rw [d'] at q2; cases q2) e',no⟩
 have ko:∀ b o',s.heap.get? b=some o'→b≠C→h'.get? b=some o':=fun b o' e' nb=>hs.extBut b o' nb e'
 refine ⟨OldT.ext S.old hl hs.extBut,NoLimit.ext S.lim (Nat.ne_of_lt (Nat.lt_of_lt_of_le S.cs hl)) hs.extBut,S.os,S.bare,S.nd,S.lo,fun z hz=>(S.zs z hz).mono kp fun b hb o' e'=>ko b o' e' (fun q=>ho (q ▸ List.mem_flatMap.mpr ⟨z,hz,hb⟩)),fun a ha=>?_,?_,S.nin,fun x p ex=>?_,S.cs,S.cl.to fun b o' e' hc=>ko b o' e' (fun q=>by subst q; obtain ⟨_,_,q2⟩:=hd _ e'; obtain ⟨v,hv⟩:=hc; rw [hv] at q2; cases q2)⟩
 ·obtain ⟨o',e',fl⟩:=S.fr a ha
  exact ⟨o',ko a o' e' (fun q=>hf (q ▸ ha)),fl⟩
 ·obtain ⟨mm,o',es',ep',e',r⟩:=S.ns
  exact ⟨mm,o',es',ep',ko _ _ e' (fun q=>hf (q ▸ S.nin)),r⟩
 ·obtain ⟨v,h1,h2⟩:=S.loc x p ex
  refine ⟨v,?_,h2.mono kp⟩
  rcases h1 with ⟨a,mm,⟨o',es',ep',e',r⟩,c⟩ | ⟨a,c,o',h3,h4,h5⟩
  ·exact .inl ⟨a,mm,⟨o',es',ep',ko _ _ e' (fun q=>hf (q ▸ S.nin)),r⟩,c⟩
  ·exact .inr ⟨a,c,o',h3,ko _ _ h4 (fun q=>by subst q; obtain ⟨_,_,q2⟩:=hd _ h4; rw [h5] at q2; cases q2),h5⟩
theorem vps_i {h:Heap} {own:List Addr}:∀ {l:List (Int × PV)} {vs:List (Value × Value)},VPs h own (l.map fun x=>(PV.int x.1,x.2)) vs →
  allIntKeys vs=true∧(intKeyPairs vs).map (·.1)=l.map (fun x=> x.1)∧∀ i,(∃ p v,l.lookup i=some p∧valueAt (intKeyPairs vs) ( i)=some v∧VR h own p v)∨(l.lookup i=none∧valueAt (intKeyPairs vs) ( i)=none)
 | [],_,x=>by cases x; exact ⟨rfl,rfl,fun i=>.inr ⟨rfl,rfl⟩⟩
 | (i,q) :: l,_,x=>by
  cases x with
  | cons hv hu hs =>
   cases hv
   obtain ⟨h1,h2,h3⟩:=vps_i hs
   refine ⟨h1,by simp only [intKeyPairs,List.map_cons,h2],fun j=>?_⟩
   rw [List.lookup_cons]
   by_cases hj:j=i
   ·subst hj
    rw [beq_self_eq_true]
    exact .inl ⟨q,_,rfl,by simp [valueAt,intKeyPairs],hu⟩
   ·have e1:(j == i)=false:=by rw [beq_eq_false_iff_ne]; exact hj
    rw [e1]
    have e2:∀ (w:Value) (r:List (Int × Value)),valueAt (( i,w) :: r) ( j)=valueAt r ( j):=fun w r=>by
     have:¬ ( i =  j):=fun q=>hj ( q).symm
     simp [valueAt,this]
    rcases h3 j with ⟨p,v,a,b,c⟩ | ⟨a,b⟩
    ·exact .inl ⟨p,v,a,by rw [intKeyPairs,e2]; exact b,c⟩
    ·exact .inr ⟨a,by rw [intKeyPairs,e2]; exact b⟩
theorem EV_DictGet_i {keys:List (Option Expr)} {values:List Expr} {dpos apos pos:Pos} {key dflt:Expr} {pl:Sem Bool} {P:PV→AS→Prop}
  (h:EVP g A F dpos keys values σ fun kvs σ₁=>∃ l:List (Int × PV),kvs=l.map (fun x=>(PV.int x.1,x.2))∧(l.map (fun x=> x.1)).Nodup∧EV g A F key σ₁ fun p σ₂=>∃ i,p=PV.int i∧EV g A F dflt σ₂ fun d σ₃=>P ((l.lookup i).getD d) σ₃)
  (hall:keys.all (·.isSome)=true:=by with_unfolding_all rfl) (hl:keys.length=values.length:=by with_unfolding_all rfl) (h0:keys≠[]:=by exact List.cons_ne_nil _ _) (hlen:keys.length≤15:=by exact Nat.le_of_ble_eq_true (by with_unfolding_all rfl))
  (he:eval (.Call (.Attribute (.Dict keys values dpos) "get" apos) [key,dflt] [] pos) F.env=(do
   let ov ← eval (.Dict keys values dpos) F.env
   standAt apos.atName
   let (f,first) ← holding [ov] (getMethod ov "get" pl)
   callWith pos f first (backTo pos (starEach [key,dflt] F.env)) []):=by with_unfolding_all rfl)
  (hns:(backTo pos (starEach [key,dflt] F.env)).any (·.1)=false:=by with_unfolding_all rfl)
  (hst:starEach [key,dflt] F.env=(false,eval key F.env) :: starEach [dflt] F.env:=by with_unfolding_all rfl)
  (hst2:starEach [dflt] F.env=(false,eval dflt F.env) :: starEach [] F.env:=by with_unfolding_all rfl):EV g A F (.Call (.Attribute (.Dict keys values dpos) "get" apos) [key,dflt] [] pos) σ P:=by
 intro s S Q E k
 refine MethodCall_ (pl:=pl) (wpAny_Dict_walk (knd:=intKind g.prog g.w) hall hl h0 hlen ?_) he
 have S₀:=S.push { cls:=.type "dict",data:=.dict #[] }
 have hdn:(s.heap.push { cls:=.type "dict",data:=.dict #[] }).DictOf (intKind g.prog g.w) s.heap.objs.size []:=.new s.heap
 have haf:s.heap.objs.size∉F.fr:=fun q=>Nat.lt_irrefl _ (S.fr_lt q)
 have hao:s.heap.objs.size∉σ.own:=fun q=>Nat.lt_irrefl _ (S.own_lt q)
 have hal:g.h₁.objs.size≤s.heap.objs.size:=S.base_le
 have hsys:(s.heap.objs.size == sysModules)=false:=by
  have:=modules_low S.lim
  rw [beq_eq_false_iff_ne]
  exact Nat.ne_of_gt this
 have hpush:Stp [] σ.own s σ.own { s with heap:=s.heap.push { cls:=.type "dict",data:=.dict #[] } }:=.push _
 have hnone:s.heap.get? s.heap.objs.size=none:=get?_size _
 refine h _ S₀ _ E fun vs kvs σ₁ s₁ h₁ S₁ hvs st₁=>?_
 obtain ⟨l,rfl,hnd,h₂⟩:=h₁
 obtain ⟨hk1,hk2,_⟩:=vps_i hvs
 have hkeep:∀ {o},(s.heap.push { cls:=.type "dict",data:=.dict #[] }).get? s.heap.objs.size=some o→s₁.heap.get? s.heap.objs.size=some o:=fun {o} e=>st₁.keep _ o e List.not_mem_nil hao (by
  have:o={ cls:=.type "dict",data:=.dict #[] }:=Option.some.inj (e.symm.trans (Heap.get?_push_size _ rfl))
  subst this; exact .inl (by simp))
 have hd₁:s₁.heap.DictOf (intKind g.prog g.w) s.heap.objs.size []:=hdn.at fun o e=>hkeep e
 have ha₁:s₁.heap.get? s.heap.objs.size=some { cls:=.type "dict",data:=.dict #[] }:=hkeep (Heap.get?_push_size _ rfl)
 have hao₁:s.heap.objs.size∉σ₁.own:=fun q=>by
  rcases st₁.fresh _ q with q | q
  ·exact hao q
  ·rw [Heap.get?_push_size _ rfl] at q; cases q
 refine display_done_int hk1 (by rw [hk2]; exact hnd) hd₁ fun h' hd' hs'=>?_
 have S₂:=(S₁.dictAt hal haf hao₁ hs' fun o' e=>by rw [ha₁] at e; cases e; exact ⟨_,_,rfl⟩).toks (s₁.toks + vs.length)
 have st₂:Stp [] σ.own s σ₁.own { s₁ with heap:=h',toks:=s₁.toks + vs.length }:=((hpush.trans st₁).off hnone hs'.extBut).trans .toks
 have kp₂:Kp s₁.heap h' σ₁.own σ₁.own:=fun b o' xs n e' d' no=>⟨hs'.extBut b o' (fun q=>by subst q; rw [ha₁] at e'; cases e'; cases d') e',no⟩
 refine getMethod_builtin hd'.typeIs PySem.F.plainAttrs_dict PySem.F.slot_dict_get PySem.F.type_dict_get hd'.mapOf.noDict ?_
 have hargs:EVs g A F [key,dflt] σ₁ fun ps σ₃=>∃ i d,ps=[PV.int i,d]∧P ((l.lookup i).getD d) σ₃ :=
  EVs_cons (J.mono h₂ fun p σ₂ ⟨i,hp,h₃⟩=>EVs_cons (J.mono h₃ fun d σ₃ h₄=>EVs_nil ⟨i,d,by rw [hp],h₄⟩) hst2) hst
 refine callWith_builtin hns (evalArgs_EVs hargs hns S₂ fun as ps σ₃ s₃ h₃ S₃ has st₃=>?_)
 obtain ⟨i,d,rfl,hP⟩:=h₃
 obtain ⟨o',e',hc'⟩:∃ o,h'.get? s.heap.objs.size=some o∧o.cls≠.none:=by
  obtain ⟨o,ho,hc⟩:=hd'.typeIs (s:={ s₁ with heap:=h' })
  exact ⟨o,ho,by rw [hc]; simp⟩
 have hd₃:s₃.heap.DictOf (intKind g.prog g.w) s.heap.objs.size (intKeyPairs vs):=hd'.at fun o e=>st₃.keep _ o e List.not_mem_nil hao₁ (by
  have:o'=o:=Option.some.inj (e'.symm.trans e)
  exact .inl (this ▸ hc'))
 cases has with
 | cons hkv hrest=>cases hrest with
  | cons hdv hnil =>
   cases hnil
   cases hkv
   refine call_meetsIn PySem.F.slot_dict_get hd₃.typeIs PySem.F.entry_dict_get (PySem.F.args_dict_get_3 _ _ _) (meets_dict_get_default (intKind g.prog g.w) _ (k:= i) (by simp [PySem.intKind,Value.isInt]) hsys _) ⟨_,hd₃.mapOf,?_⟩
   have hvs₃:=(hvs.mono kp₂).mono (S₂.kp st₃)
   obtain ⟨_,_,hlook⟩:=vps_i hvs₃
   have fin:∀ v,VR s₃.heap σ₃.own ((l.lookup i).getD d) v→Q v { s₃ with toks:=s₃.toks + 1 }:=fun v hv=>k v _ σ₃ _ hP (S₃.toks _) hv ((st₂.trans st₃).trans .toks)
   rcases hlook i with ⟨p,v,a,b,c⟩ | ⟨a,b⟩
   ·rw [b]; rw [a] at fin; exact fin _ c
   ·rw [b]; rw [a] at fin; exact fin _ hdv
end
end Mine
end SM16
section SM17
open PySem PySem.Calls PyProof.Rows
namespace Mine
section
variable {g:Gl} {A:Around} {F:Fm} {σ:AS} {s:Shared} {P:PV→AS→Prop}
theorem c_ne_bb {a b:Bool} (h:P (.raw (.bool (!(a == b)))) σ):OP2 g A F (compareOp .NotEq) (.raw (.bool a)) (.raw (.bool b)) σ P:=fun s v u S hv hu Q E k=>by
 cases hv; cases hu; exact PySem.SeqAt.RcNeAt.bool_bool a b _ _ _ _ (k _ _ σ s h S (.raw _) .refl)
theorem isub_ii {a b:Int} (h:P (.int (a - b)) σ):OP2 g A F (inplaceOp .Sub) (.int a) (.int b) σ P:=fun s v u S hv hu Q E k=>by
 cases hv; cases hu; exact PySem.P.isub_int (k _ _ σ _ h (S.toks _) (.int _ _) .toks)
theorem EV_RevSlice {value st:Expr} {p pos:Pos} (h:EV g A F value σ fun p σ₁=>∃ l,p=tx l∧l.length≤16777216∧EV g A F st σ₁ fun q σ₂=>q=.int (-1)∧P (tx l.reverse) σ₂) :
  EV g A F (.Subscript value (.Slice none none (some st) p) pos) σ P:=by
 intro s S Q E k
 refine Subscript_ (h s S _ E fun v p σ₁ s₁ h₁ S₁ hv st₁=>?_)
 obtain ⟨l,rfl,hz,h₂⟩:=h₁
 refine wpAny_Slice (evalPart_none_step (evalPart_none_step (evalPart_some_step (h₂ s₁ S₁ _ E fun u q σ₂ s₂ h₃ S₂ hu st₂=>?_))))
 obtain ⟨rfl,hP⟩:=h₃
 cases hu with
 | int _ tu =>
  cases hv with
  | str _ t =>
   have S₃:=S₂.push { cls:=.type "slice",data:=.fields #[.none,.none,.int (-1) tu] }
   have st₃:=st₂.trans (Stp.push (fr:=[]) (own:=σ₂.own) { cls:=.type "slice",data:=.fields #[.none,.none,.int (-1) tu] })
   refine subTail (ops:=[.str (ofL l) t,.ref s₂.heap.objs.size]) (typeIs_str _ _ _) PySem.F.slot_str_getitem.lookup rfl ?_
   refine wpAny_getItem_str_slice (l:=none) (u:=none) (st:=some (-1,tu)) ⟨_,Heap.get?_push_size _ rfl,rfl,rfl⟩ rfl ?_
   have e:sliceMade (ofL l) t none none (some (-1,tu))=.str (ofL l.reverse):=by
    unfold sliceMade
    rw [if_neg (by simp)]
    have:(slicePicked (ofL l) none none (some (-1,tu))).filterMap ((ofL l).cps[·]?)=l.reverse:=by
     show (PySem.sliceRange (sliceBounds none none (some (-1)) (ofL l).length).1 (sliceBounds none none (some (-1)) (ofL l).length).2.1 (sliceBounds none none (some (-1)) (ofL l).length).2.2).filterMap ((ofL l).cps[·]?)=l.reverse
     rw [ofL_len,PySem.W.krv_bounds]
     show (PySem.sliceRange ((l.length:Int) - 1) (-1) (-1)).filterMap ((ofL l).cps[·]?)=l.reverse
     rw [PySem.W.krv_sliceRange,PySem.W.krv_range,List.filterMap_reverse]
     have:=PySem.W.krv_all l.toArray
     simp only [List.size_toArray] at this
     rw [show (ofL l).cps=l.toArray from rfl,this]
    rw [this]; rfl
   rw [e]
   refine ⟨?_,?_⟩
   all_goals first
    | (have:sizeLine=16777216:=rfl; rw [ofL_len,List.length_reverse]; omega)
    | exact k _ _ σ₂ _ hP (S₃.toks _) (.str _ _) (st₁.trans (st₃.trans .toks))
theorem CompP_filterL {α:Type} {D:Addr} {elt target c:Expr} {P:List PV→List (Addr × MO)→Prop} {cap:List (Str × PV)} {z:List (Addr × MO)} (inj f:α→PV) (t:α→Bool) :
  ∀ {l:List α} {acc:List PV},(∀ a∈l,∀ acc,AS1 g A F target (inj a) ⟨cap,(D,.list acc) :: z⟩ fun σ₁=>TR g A F c σ₁ fun b σ₂=>b=t a∧if b=true then EV g A F elt σ₂ fun p σ₃=>p=f a∧σ₃.zone=(D,.list acc) :: z∧Sub σ₃.loc cap else σ₂.zone=(D,.list acc) :: z∧Sub σ₂.loc cap) →
   acc.length + l.length≤1000000→P (acc++(l.filter t).map f) z→CompP g A F D elt target [c] (l.map inj) acc ⟨cap,(D,.list acc) :: z⟩ P
 | [],acc,h,hl,hP=>⟨z,rfl,by simpa using hP⟩
 | x :: xs,acc,h,hl,hP=>by
  intro s v S hv Q E k
  refine h x List.mem_cons_self acc s v S hv Q E fun σ₁ s₁ h₁ S₁ st₁=>k σ₁ s₁ ?_ S₁ st₁
  refine TST_one ?_
  refine J.mono h₁ ?_
  rintro b σ₂ ⟨rfl,h₂⟩
  cases hb:t x with
  | true =>
   rw [hb] at h₂
   rw [if_pos rfl] at h₂ ⊢
   refine J.mono h₂ ?_
   rintro p σ₃ ⟨rfl,hz,hsub⟩
   refine ⟨z,hz,by simp at hl; omega,?_⟩
   refine CompP_weak hsub ?_
   refine CompP_filterL inj f t (fun x hx acc=>h x (List.mem_cons_of_mem _ hx) acc) (by simp at hl ⊢; omega) ?_
   rw [List.filter_cons_of_pos hb] at hP
   simpa using hP
  | false =>
   rw [hb] at h₂
   rw [if_neg (by simp)] at h₂ ⊢
   obtain ⟨hz,hsub⟩:=h₂
   obtain ⟨loc₂,z₂⟩:=σ₂
   dsimp only at hz hsub
   subst hz
   refine CompP_weak hsub ?_
   refine CompP_filterL inj f t (fun x hx acc=>h x (List.mem_cons_of_mem _ hx) acc) (by simp at hl ⊢; omega) ?_
   rw [List.filter_cons_of_neg (by simp [hb])] at hP
   exact hP
theorem range2 {n:Nat}:rangeL 1 1 (Builtin.Range.rangeSize 1 (n:Int) 1).toNat=(List.range (n - 1)).map fun (i:Nat)=>.int ((i + 1:Nat):Int):=by
 have e:(Builtin.Range.rangeSize 1 (n:Int) 1).toNat=n - 1:=by
  unfold Builtin.Range.rangeSize
  rw [if_pos (by decide)]
  split
  ·rw [Int.ediv_one]; omega
  ·omega
 rw [e]
 unfold rangeL
 refine List.map_congr_left fun i _=>?_
 congr 1; omega
theorem small_range2 {n:Nat} (h1:n≤1000000):Builtin.Range.small 1 (n:Int) 1=true:=small_one (by decide) (by decide) (by omega) (by omega)
end
end Mine
end SM17
section SM18
open PySem PySem.Calls PyProof.Rows
namespace Mine
inductive Brw (σ:AS):List (Str × PV)→Prop
 | nil:Brw σ []
 | same {x:Str} {p:PV} {r:List (Str × PV)} (h:σ.loc.lookup x=some p) (hr:Brw σ r):Brw σ ((x,p) :: r)
 | lend {x:Str} {D:Addr} {ps:List PV} {r:List (Str × PV)} (h:σ.loc.lookup x=some (.raw (.ref D))) (hz:(D,.list ps)∈σ.zone) (hr:Brw σ r):Brw σ ((x,.lst ps) :: r)
section
variable {g:Gl} {A:Around} {F:Fm} {σ:AS} {s:Shared} {P:PV→AS→Prop}
theorem Brw.sat {loc':List (Str × PV)} (b:Brw σ loc') (S:Sat g F σ s):Sat g F ⟨loc',[]⟩ s:=by
 have kp:Kp s.heap s.heap σ.own (AS.own ⟨loc',[]⟩):=Kp.shrink fun a h=>by simp [AS.own] at h
 have hloc:∀ x p,loc'.lookup x=some p→∃ v,Named s.heap F.env x v∧VR s.heap (AS.own ⟨loc',[]⟩) p v:=by
  have key:∀ loc'',Brw σ loc''→∀ x p,loc''.lookup x=some p→∃ v,Named s.heap F.env x v∧VR s.heap [] p v:=by
   intro loc'' b
   induction b with
   | nil=>intro x p e; simp at e
   | same h hr ih =>
    intro x p e
    rw [List.lookup_cons] at e
    split at e
    ·rename_i q
     have:=eq_of_beq q
     subst this
     cases e
     obtain ⟨v,h1,h2⟩:=S.loc _ _ h
     exact ⟨v,h1,h2.mono kp⟩
    ·exact ih x p e
   | lend h hz hr ih =>
    intro x p e
    rw [List.lookup_cons] at e
    split at e
    ·rename_i q
     have:=eq_of_beq q
     subst this
     cases e
     obtain ⟨v,h1,h2⟩:=S.loc _ _ h
     cases h2
     obtain ⟨items,n,h3,h4⟩:=S.zs _ hz
     exact ⟨_,h1,.lst List.not_mem_nil h3 (h4.mono kp)⟩
    ·exact ih x p e
  exact key loc' b
 refine ⟨S.old,S.lim,S.os,S.bare,?_,fun a ha=>?_,fun z hz=>(by simp at hz),S.fr,S.ns,S.nin,hloc,S.cs,S.cl⟩
 ·have:AS.own ⟨loc',[]⟩=[]:=rfl
  rw [this,List.append_nil]; exact (List.nodup_append.mp S.nd).1
 ·have:AS.own ⟨loc',[]⟩=[]:=rfl
  rw [this,List.append_nil] at ha; exact S.lo a (List.mem_append_left _ ha)
theorem Sat.unlend {loc':List (Str × PV)} {F':Fm} {σ':AS} {s':Shared} (S:Sat g F σ s) (S':Sat g F' σ' s') (st:Stp [] [] s σ'.own s'):Sat g F σ s'∧Stp [] σ.own s σ.own s':=by
 have kk:∀ b o,s.heap.get? b=some o→hard o→s'.heap.get? b=some o:=fun b o e h=>st.keep b o e List.not_mem_nil List.not_mem_nil h
 have kp:Kp s.heap s'.heap σ.own σ.own:=fun b o xs n e d no=>⟨kk b o e (.inr fun vs q=>by rw [d] at q; cases q),no⟩
 refine ⟨⟨S'.old,S'.lim,S'.os,S'.bare,S.nd,S.lo,fun z hz=>(S.zs z hz).mono kp fun b hb o e=>?_,fun a ha=>?_,?_,S.nin,fun x p e=>?_,S.cs,S.cl.to fun b o e hc=>kk b o e (frameLike.hard (.inr hc))⟩,⟨fun b o e _ _ hc=>kk b o e hc,st.there,fun a ha=>.inl ha,st.gens⟩⟩
 ·have z':=S.zs z hz
  obtain ⟨b',mo⟩:=z
  cases mo with
  | list l =>
   obtain ⟨items,n,h1,h2⟩:=z'
   simp [MO.addrs] at hb; subst hb
   rw [h1] at e; cases e
   exact kk _ _ h1 (.inl (by simp))
  | obj ob =>
   simp [MO.addrs] at hb; subst hb
   rw [z'.1] at e; cases e
   exact kk _ _ z'.1 (.inl z'.2.2)
  | inst dx C att body =>
   obtain ⟨dd,es,n,h1,h2,h3,h4⟩:=z'
   simp [MO.addrs] at hb
   rcases hb with rfl | rfl
   ·rw [h1] at e; cases e; exact kk _ _ h1 (.inl (by simp))
   ·rw [h3] at e; cases e; exact kk _ _ h3 (.inl (by simp))
 ·obtain ⟨o,e,fl⟩:=S.fr a ha
  exact ⟨o,kk a o e fl.hard,fl⟩
 ·obtain ⟨m,o,es,ep,e,d,r⟩:=S.ns
  exact ⟨m,o,es,ep,kk _ _ e (frameLike.hard (.inl ⟨es,ep,d⟩)),d,r⟩
 ·obtain ⟨v,h1,h2⟩:=S.loc x p e
  exact ⟨v,h1.ext fun b o e fl=>kk b o e fl.hard,h2.mono kp⟩
theorem VR.flat {h h':Heap} {own own':List Addr} {p:PV} {v:Value} (hf:p.flat) (x:VR h own p v):VR h' own' p v:=by
 cases x with
 | raw v=>exact .raw v
 | int i t=>exact .int i t
 | str i t=>exact .str i t
 | byt i t=>exact .byt i t
 | tup=>exact hf.elim
 | lst=>exact hf.elim
theorem EV_borrow {e:Expr} (loc':List (Str × PV)) (b:Brw σ loc') (h:EV g A F e ⟨loc',[]⟩ fun p _=>p.flat∧P p σ):EV g A F e σ P:=by
 intro s S Q E k
 refine h s (b.sat S) Q E fun v p σ' s' h' S' hv st=>?_
 obtain ⟨S₂,st₂⟩:=S.unlend (loc':=loc') S' st
 exact k v p σ s' h'.2 S₂ (hv.flat h'.1) st₂
end
end Mine
end SM18
section SM19
open PySem PySem.Calls PyProof.Rows
namespace Mine
open Sem (wp)
theorem slot_md_get:Slot "method_descriptor" "__get__" "method_descriptor.__get__" :=
 .of (owner:="method_descriptor") (n:="__get__") (by rw [typeLookup_type,builtinLookup_eq_fast]; kernel_rfl) (by decide +kernel) (by decide +kernel) (by decide +kernel)
  (by first | exact .inl (by decide +kernel) | exact .inr (by decide +kernel)) (by rw [isSubtype_type]; kernel_rfl)
theorem entry_md_get:entryFor table "method_descriptor.__get__" = some Builtin.«method_descriptor.__get__»:=entryFor_of_tree (by kernel_rfl)
theorem args_md_get (a b c:Value):argsOk "method_descriptor.__get__" ⟨[a,b,c],[]⟩:=by unfold argsOk; kernel_rfl
theorem lk_list_append:typeLookup (.type "list") "append" = pure (some (.builtin "list.append")):=slot_list_append.lookup
theorem lk_md_set:typeLookup (.type "method_descriptor") "__set__" = pure none:=by rw [typeLookup_type,builtinLookup_eq_fast]; kernel_rfl
theorem lk_md_delete:typeLookup (.type "method_descriptor") "__delete__" = pure none:=by rw [typeLookup_type,builtinLookup_eq_fast]; kernel_rfl
theorem slot_list_ga:Slot "list" "__getattribute__" "list.__getattribute__":=by first | exact PySem.F.slot_list_getattribute
theorem entry_list_ga:entryFor table "list.__getattribute__" = some Builtin.«object.__getattribute__»:=by first | exact am_entry_list_getattribute | exact entryFor_alias (id':="object.__getattribute__") (by kernel_rfl) (by first | rfl | decide +kernel) (by decide +kernel) (by kernel_rfl)
theorem owner_list_append:".".intercalate ("list.append".cutAt '.').dropLast = "list":=by decide +kernel
theorem sub_list_owner:isSubtype (.type "list") (.type (".".intercalate ("list.append".cutAt '.').dropLast))=pure true:=by rw [owner_list_append,isSubtype_type]; kernel_rfl
abbrev boundAppend (D:Addr):Obj:={ cls:=.type "builtin_function_or_method",data:=.fields #[.builtin "list.append",.ref D] }
section
variable {prog:Program} {w:World} {A:Around} {E:Value→Shared→Prop} {h:Heap} {g:Array GenState} {d:Drawn} {t:Nat} {os:OsState} {D:Addr} {items:Array Value} {n:Nat}
theorem append_get {R:Result→Shared→Prop} (hl:h.get? D=some (lstObj items n)) (hq:R (.ok (.ret (.ref h.objs.size))) ⟨h.push (boundAppend D),g,d,t,os⟩) :
  codeAny (model prog w) A (.call (.builtin "method_descriptor.__get__") ⟨[.builtin "list.append",.ref D,.type "list"],[]⟩) R ⟨h,g,d,t,os⟩:=by
 have hT:(⟨h,g,d,t,os⟩:Shared).TypeIs (.ref D) "list":=⟨_,hl,rfl⟩
 have hT5:(⟨h,g,d,t,os⟩:Shared).TypeIs (.builtin "list.append") "method_descriptor":=type_list_append
 refine codeAny_call_builtin slot_md_get.plain entry_md_get (slot_md_get.check _ _ _ _ _ _ _ _ hT5 (args_md_get _ _ _) ?_)
 have f8:=sub_list_owner
 repeat (any_goals (first | assumption | wp_step))
theorem append_entry {tk:Tok} {Q:Fin→Shared→Prop} (hl:h.get? D=some (lstObj items n)) (hq:Q (.done (.ret (.ref h.objs.size))) ⟨h.push (boundAppend D),g,d,t,os⟩) :
  wpAny (model prog w) A (Builtin.«object.__getattribute__» ⟨[.ref D,.str "append" tk],[]⟩) Q E ⟨h,g,d,t,os⟩:=by
 have hT:(⟨h,g,d,t,os⟩:Shared).TypeIs (.ref D) "list":=⟨_,hl,rfl⟩
 have hT5:(⟨h,g,d,t,os⟩:Shared).TypeIs (.builtin "list.append") "method_descriptor":=type_list_append
 have f4:=lk_list_append
 have f5:=type_list_append
 have f6:=slot_md_get.lookup
 have f7:=lk_md_set
 have f9:=lk_md_delete
 repeat (any_goals (first | assumption | wp_step))
 refine append_get hl ?_
 repeat (any_goals (first | assumption | wp_step))
theorem append_call {tk:Tok} {R:Result→Shared→Prop} (hl:h.get? D=some (lstObj items n)) (hq:R (.ok (.ret (.ref h.objs.size))) ⟨h.push (boundAppend D),g,d,t,os⟩) :
  codeAny (model prog w) A (.call (.builtin "list.__getattribute__") ⟨[.ref D,.str "append" tk],[]⟩) R ⟨h,g,d,t,os⟩ :=
 codeAny_call_builtin slot_list_ga.plain entry_list_ga (slot_list_ga.check _ _ _ _ _ _ _ _ (show (⟨h,g,d,t,os⟩:Shared).TypeIs (.ref D) "list" from ⟨_,hl,rfl⟩) (PySem.F.args_list_getattribute_2 _ _) (append_entry hl hq))
theorem append_attr {Q:Value→Shared→Prop} (hl:h.get? D=some (lstObj items n)) (hq:Q (.ref h.objs.size) ⟨h.push (boundAppend D),g,d,t + 1,os⟩):wpAny (model prog w) A (getAttr (.ref D) "append" true) Q E ⟨h,g,d,t,os⟩:=by
 have hT:∀ t,(⟨h,g,d,t,os⟩:Shared).TypeIs (.ref D) "list":=fun _=>⟨_,hl,rfl⟩
 have hT1:=hT (t + 1)
 have hT0:=hT t
 have f2:=slot_list_ga.lookup
 have f3:=slot_list_ga.bind (.ref D)
 unfold getAttr
 repeat (any_goals (first | assumption | wp_step))
 refine append_call hl ?_
 have hT5:(⟨h.push (boundAppend D),g,d,t + 1,os⟩:Shared).TypeIs (.ref h.objs.size) "builtin_function_or_method":=⟨_,Heap.get?_push_size _ rfl,rfl⟩
 repeat (any_goals (first | assumption | wp_step))
end
theorem sub_list_module:isSubtype (.type "list") (.type "module")=pure false:=by rw [isSubtype_type]; kernel_rfl
theorem check_bound_append {prog:Program} {w:World} {A:Around} {E:Value→Shared→Prop} {D:Addr} {v:Value} {Q:Unit→Shared→Prop} {h:Heap} {g:Array GenState} {d:Drawn} {t:Nat} {os:OsState} {items:Array Value} {n:Nat}
  (hl:h.get? D=some (lstObj items n)) (hq:Q () ⟨h,g,d,t,os⟩):wpAny (model prog w) A (checkBoundCall "list.append" ⟨[.ref D,v],[]⟩) Q E ⟨h,g,d,t,os⟩:=by
 have hT:(⟨h,g,d,t,os⟩:Shared).TypeIs (.ref D) "list":=⟨_,hl,rfl⟩
 have f1:=sub_list_module
 unfold checkBoundCall
 repeat (any_goals (first | assumption | wp_step))
theorem Sat.newMO {g:Gl} {F:Fm} {σ:AS} {s:Shared} (S:Sat g F σ s) (o:Obj) (m:MO) (hm:m.addrs s.heap.objs.size=[s.heap.objs.size])
  (hz:Kp s.heap (s.heap.push o) σ.own (s.heap.objs.size :: σ.own)→ZR (s.heap.push o) (s.heap.objs.size :: σ.own) s.heap.objs.size m) :
  Sat g F ⟨σ.loc,(s.heap.objs.size,m) :: σ.zone⟩ { s with heap:=s.heap.push o }∧Stp [] σ.own s (AS.own ⟨σ.loc,(s.heap.objs.size,m) :: σ.zone⟩) { s with heap:=s.heap.push o }:=by
 have kk:∀ b o',s.heap.get? b=some o'→(s.heap.push o).get? b=some o':=fun b o' e=>Heap.get?_push_of_some _ e
 have hown:AS.own ⟨σ.loc,(s.heap.objs.size,m) :: σ.zone⟩=s.heap.objs.size :: σ.own:=by show m.addrs _++_=_; rw [hm]; rfl
 have kp:Kp s.heap (s.heap.push o) σ.own (s.heap.objs.size :: σ.own):=fun b o xs n e _ no=>⟨kk b o e,fun q=>by
  rcases List.mem_cons.mp q with rfl | q
  ·exact Nat.lt_irrefl _ (Heap.lt_size e)
  ·exact no q⟩
 have S₁:=S.push o
 refine ⟨⟨S₁.old,S₁.lim,S.os,S.bare,?_,fun a ha=>?_,fun z hz'=>?_,S₁.fr,S₁.ns,S.nin,fun x p e=>?_,S.cs,S₁.cl⟩,⟨fun b o e _ _ _=>kk b o e,fun b o e=>⟨o,kk b o e⟩,fun a ha=>?_,fun _ _ e=>e⟩⟩
 ·rw [hown]
  obtain ⟨n1,n2,n3⟩:=List.nodup_append.mp S.nd
  refine List.nodup_append.mpr ⟨n1,List.nodup_cons.mpr ⟨fun q=>Nat.lt_irrefl _ (S.own_lt q),n2⟩,fun a ha b hb q=>?_⟩
  subst q
  rcases List.mem_cons.mp hb with rfl | hb
  ·exact Nat.lt_irrefl _ (S.fr_lt ha)
  ·exact n3 a ha a hb rfl
 ·rw [hown] at ha
  rcases List.mem_append.mp ha with h | h
  ·exact S.lo a (List.mem_append_left _ h)
  ·rcases List.mem_cons.mp h with rfl | h
   ·exact S.base_le
   ·exact S.lo a (List.mem_append_right _ h)
 ·rw [hown]
  rcases List.mem_cons.mp hz' with rfl | hz'
  ·exact hz kp
  ·exact (S.zs z hz').mono kp fun b _ o e=>kk b o e
 ·rw [hown]
  obtain ⟨v,h1,h2⟩:=S.loc x p e
  exact ⟨v,h1.ext fun b o e _=>kk b o e,h2.mono kp⟩
 ·rw [hown] at ha
  rcases List.mem_cons.mp ha with rfl | ha
  ·exact .inr (get?_size _)
  ·exact .inl ha
theorem Sat.newObj {g:Gl} {F:Fm} {σ:AS} {s:Shared} (S:Sat g F σ s) (o:Obj) (h1:∀ v,o.data≠.cell v) (h2:o.cls≠.none) (h3:o.isFreed=false:=by rfl) :
  Sat g F ⟨σ.loc,(s.heap.objs.size,.obj o) :: σ.zone⟩ { s with heap:=s.heap.push o }∧Stp [] σ.own s (AS.own ⟨σ.loc,(s.heap.objs.size,.obj o) :: σ.zone⟩) { s with heap:=s.heap.push o } :=
 S.newMO o (.obj o) rfl fun _=>⟨Heap.get?_push_size _ h3,h1,h2⟩
section
variable {g:Gl} {A:Around} {F:Fm} {σ:AS} {s:Shared} {P:PV→AS→Prop}
theorem append_code {D:Addr} {ps:List PV} {zone':List (Addr × MO)} {p:PV} {v:Value} {R:Result→Shared→Prop} (S:Sat g F σ s) (U:ZAt D (.list ps) (.list (ps++[p])) σ.zone zone') (hv:VR s.heap σ.own p v) (hlen:ps.length≤1000000)
  (k:∀ s',Sat g F ⟨σ.loc,zone'⟩ s'→Stp [] σ.own s (AS.own ⟨σ.loc,zone'⟩) s'→R (.ok (.ret .none)) s'):codeAny (model g.prog g.w) A (.builtin "list.append" ⟨[.ref D,v],[]⟩) R s:=by
 obtain ⟨pre,post,e1,e2⟩:=U.split
 obtain ⟨items,n,h1,h2⟩:=S.zs (D,.list ps) (by rw [e1]; simp)
 have hl:=h2.length
 simp only [Array.length_toList] at hl
 refine codeAny_builtin entry_list_append ?_
 show wpAny _ _ (updateSeq D (·.push v)>>=fun _=>ret .none) _ _ s
 refine wpAny_bind ?_
 refine wpAny_updateSeq h1 rfl (wpAny_pure ?_) (by have:sizeLine=16777216:=rfl; omega)
 have hs:Heap.SameBut D s.heap (s.heap.update D (Obj.mapSeq fun x=>x.push v)):=.update ..
 have hg:(s.heap.update D (Obj.mapSeq fun x=>x.push v)).get? D=some (lstObj (items.push v) (n + 1)):=by
  have:=Heap.get?_update_self (Obj.mapSeq fun x=>x.push v) h1 (by simp [Obj.mapSeq,Obj.isFreed])
  rw [this]
  simp [Obj.mapSeq]
 obtain ⟨S',st⟩:=S.upd U rfl (h':=s.heap.update D (Obj.mapSeq fun x=>x.push v)) (fun b o hb e=>hs.extBut b o (by simpa [MO.addrs] using hb) e) fun kp=>⟨items.push v,n + 1,hg,by
  rw [Array.toList_push]; exact (h2.mono kp).append (.cons (hv.mono kp) .nil)⟩
 exact k _ S' st
theorem CL_bound {m D:Addr} {ps:List PV} {zone':List (Addr × MO)} {p:PV} (hb:(m,.obj (boundAppend D))∈σ.zone) (U:ZAt D (.list ps) (.list (ps++[p])) σ.zone zone') (hlen:ps.length≤1000000) (h:P (.raw .none) ⟨σ.loc,zone'⟩):CL g A F (.ref m) [p] σ P:=by
 intro s vs S hvs Q E k
 cases hvs with
 | cons hv hs =>
  cases hs
  rename_i v
  have hm:=(S.zs _ hb).1
  obtain ⟨pre,post,e1,e2⟩:=U.split
  obtain ⟨items,n,h1,h2⟩:=S.zs (D,.list ps) (by rw [e1]; simp)
  refine wpAny_call (codeAny_of_tree ?_)
  show wpAny _ A.in1 (callAny (.ref m) ⟨[v],[]⟩) _ _ s
  unfold callAny
  refine wpAny_bind (wpAny_load hm ?_)
  obtain ⟨hh,gg,d,t,os⟩:=s
  show wpAny _ _ (checkBoundCall "list.append" ⟨[.ref D,v],[]⟩>>=fun _=>again (.builtin "list.append" ⟨[.ref D,v],[]⟩)) _ _ _
  refine wpAny_bind (check_bound_append h1 ?_)
  refine wpAny_pure ⟨Code.quiet_builtin _ (by decide +kernel),?_⟩
  exact append_code S U hv hlen fun s' S' st'=>k _ _ _ s' h S' (.raw _) st'
theorem EV_boundAppend {o:Expr} {pos:Pos} (h:EV g A F o σ fun p σ₁=>∃ D ps,p=.raw (.ref D)∧(D,.list ps)∈σ₁.zone∧∀ m,P (.raw (.ref m)) ⟨σ₁.loc,(m,.obj (boundAppend D)) :: σ₁.zone⟩)
  (he:eval (.Attribute o "append" pos) F.env=(do
   let ov ← eval o F.env
   standAt pos.atName
   let r ← holding [ov] (getAttr ov "append" true)
   letTemporaryGo o ov r
   pure r):=by with_unfolding_all rfl):EV g A F (.Attribute o "append" pos) σ P:=by
 intro s S Q E k
 refine Attribute_any_ (h s S _ E fun v p σ₁ s₁ h₁ S₁ hv st₁=>?_) he
 obtain ⟨D,ps,rfl,hz,hP⟩:=h₁
 cases hv
 obtain ⟨items,n,h1,h2⟩:=S₁.zs _ hz
 obtain ⟨hh,gg,d,t,os⟩:=s₁
 refine append_attr h1 ?_
 obtain ⟨S₂,st₂⟩:=S₁.newObj (boundAppend D) (by simp) (by simp)
 exact k _ _ _ _ (hP _) (S₂.toks _) (.raw _) (st₁.trans (st₂.trans .toks))
theorem callWith_fieldsM {M:Model} {pos:Pos} {u:Addr} {ob:Obj} {vs:Array Value} {first:List Value} {args:List (Bool × Sem Value)} {Q:Value→Shared→Prop} {E:Value→Shared→Prop} (hd:ob.data=.fields vs) (hc:ob.cls=.type "builtin_function_or_method") (hplain:args.any (·.1)=false)
  (h:wpAny M A (evalArgs (.ref u) true args []) (fun x s₁=>s₁.heap.get? u=some ob∧wpAny M A (call (.ref u) (first++x.pos) x.kw) Q E s₁) E s):wpAny M A (callWith pos (.ref u) first args []) Q E s:=by
 unfold callWith
 refine wpAny_bind (wpAny_holding (wpAny_mono h (fun x s₁ h₁=>wpAny_bind (wpAny_standAt ?_)) fun _ _ x=>x))
 obtain ⟨ho,hcall⟩:=h₁
 simp only [hplain,List.any_nil,Bool.or_false]
 refine wpAny_bind (m:=keeperOf (.ref u)) ?_
 unfold keeperOf
 refine wpAny_bind (wpAny_load ho ?_)
 simp only [hd,hc,show (Value.type "builtin_function_or_method" != Value.type "method")=true by decide,show (Value.type "builtin_function_or_method" == Value.type "builtin_function_or_method" || Value.type "builtin_function_or_method" == Value.type "method-wrapper")=true by decide]
 refine wpAny_pure ?_
 exact wpAny_bind (wpAny_mono hcall (fun r s₂ hr=>wpAny_bind (wpAny_holding (wpAny_point (wpAny_pure hr)))) fun _ _ x=>x)
theorem EV_Call_obj {func:Expr} {args:List Expr} {pos:Pos}
  (h:EV g A F func σ fun p σ₁=>∃ m D,p=.raw (.ref m)∧EVs g A F args σ₁ fun ps σ₂=>(m,MO.obj (boundAppend D))∈σ₂.zone∧CL g A F (.ref m) ps σ₂ P)
  (he:eval (.Call func args [] pos) F.env=(do callWith pos (← eval func F.env) [] (backTo pos (starEach args F.env)) (backToKw pos (keywordEach [] F.env))):=by with_unfolding_all rfl)
  (hns:(backTo pos (starEach args F.env)).any (·.1)=false:=by with_unfolding_all rfl):EV g A F (.Call func args [] pos) σ P:=by
 intro s S Q E k
 refine Call_ (h s S _ E fun v p σ₁ s₁ h₁ S₁ hv st₁=>?_) he
 obtain ⟨m,D,rfl,h₁⟩:=h₁
 cases hv
 refine callWith_fieldsM (ob:=boundAppend D) rfl rfl hns (evalArgs_EVs h₁ hns S₁ fun vs ps σ₂ s₂ h₂ S₂ hvs st₂=>?_)
 refine ⟨(S₂.zs _ h₂.1).1,?_⟩
 exact h₂.2 s₂ vs S₂ hvs Q E fun a b σ' s' h' S' hr st'=>k a b σ' s' h' S' hr (st₁.trans (st₂.trans st'))
end
end Mine
end SM19
section SM20
open PySem PySem.Calls PyProof.Rows PySem.W
namespace Mine
open PySem.Builtin PySem.Builtin.Str
theorem slot_tr:Slot "str" "translate" "str.translate" :=
 .of (owner:="str") (n:="translate") (by rw [typeLookup_type,builtinLookup_eq_fast]; kernel_rfl) (by decide +kernel) (by decide +kernel) (by decide +kernel)
  (by first | exact .inl (by decide +kernel) | exact .inr (by decide +kernel)) (by rw [isSubtype_type]; kernel_rfl)
theorem type_tr:typeOf (.builtin "str.translate")=pure (.type "method_descriptor"):=by show builtinType _=_; rw [builtinType_eq_fast]; kernel_rfl
theorem entry_tr:entryFor table "str.translate" = some Builtin.«str.translate»:=entryFor_of_tree (by kernel_rfl)
theorem args_tr (a b:Value):argsOk "str.translate" ⟨[a,b],[]⟩:=by unfold argsOk; kernel_rfl
theorem sub_key_lookup:isSubtype (.type "KeyError") (.type "LookupError")=pure true:=by rw [isSubtype_type]; kernel_rfl
section
variable {g:Gl} {A:Around} {F:Fm} {σ:AS} {s:Shared} {P:PV→AS→Prop}
theorem tableLookup_has {prog:Program} {w:World} {A:Around} {E:Value→Shared→Prop} {s:Shared} {d:Addr} {f:Int→Option Value} {c:Nat} {x:PySem.Str} {t:Tok} {Q:Mapped→Shared→Prop}
  (hm:s.heap.MapOf (intKind prog w) d f) (hv:f c=some (.str x t)) (h:Q (.text x) { s with toks:=s.toks + 1 + 1 }):wpAny (model prog w) A (tableLookup (.ref d) c) Q E s:=by
 unfold tableLookup
 refine wpAny_bind (wpAny_attempt ?_)
 refine wpAny_bind (wpAny_mkInt ?_)
 refine wpAny_getItem_of (knd:=intKind prog w) (k:=(c:Int)) (f:=f) (intKind_is prog w _ _) hm hv ?_
 repeat (any_goals (first | assumption | wp_step))
theorem tableLookup_none {prog:Program} {w:World} {A:Around} {E:Value→Shared→Prop} {s:Shared} {d:Addr} {f:Int→Option Value} {c:Nat} {Q:Mapped→Shared→Prop} (hd:(d == sysModules)=false) (hh:A.handled=none)
  (hm:s.heap.MapOf (intKind prog w) d f) (hv:f c=none) (h:∀ h' tk,(∀ b o,s.heap.get? b=some o→h'.get? b=some o)→Q .keep { s with heap:=h',toks:=tk }):wpAny (model prog w) A (tableLookup (.ref d) c) Q E s:=by
 unfold tableLookup
 refine wpAny_bind (wpAny_attempt ?_)
 refine wpAny_bind (wpAny_mkInt ?_)
 refine wpAny_getItem_missing_of (knd:=intKind prog w) (k:=(c:Int)) (f:=f) (intKind_is prog w _ _) hd hh hm hv fun h' e x=>?_
 obtain ⟨ob,tt,e1,e2,e3⟩:=x.there
 have f1:=sub_key_lookup
 have hT:(⟨h',s.gens,s.drawn,s.toks + 1 + 1,s.os⟩:Shared).TypeIs (.ref e) "KeyError":=⟨_,e1,e2⟩
 have hq:=h h' (s.toks + 1 + 1) x.keeps
 unfold isInstance
 repeat (any_goals (first | assumption | wp_step))
theorem tr_code_none {prog:Program} {w:World} {A:Around} {E:Value→Shared→Prop} {s:Shared} {d:Addr} {f:Int→Option Value} {c:Nat} {t:Tok} {Q:Fin→Shared→Prop} (hd:(d == sysModules)=false) (hh:A.handled=none) (hc:c < 128)
  (hm:s.heap.MapOf (intKind prog w) d f) (hv:f c=none) (h:∀ h' tk,(∀ b o,s.heap.get? b=some o→h'.get? b=some o)→Q (.done (.ret (.str ⟨#[c]⟩ tk))) { s with heap:=h',toks:=tk + 1 }) :
  wpAny (model prog w) A (Builtin.«str.translate» ⟨[.str ⟨#[c]⟩ t,.ref d],[]⟩) Q E s:=by
 have hall:(({ cps:=#[c] }:PySem.Str).cps.all fun x=>decide (x < 128))=true:=by simp [hc]
 unfold Builtin.«str.translate»
 generalize hT:@tableLookup=T
 have tl:∀ (Q':Mapped→Shared→Prop) (E':Value→Shared→Prop),(∀ h' tk,(∀ b o,s.heap.get? b=some o→h'.get? b=some o)→Q' .keep { s with heap:=h',toks:=tk })→wpAny (model prog w) A (T (.ref d) c) Q' E' s:=by
  subst hT
  exact fun Q' E' h=>tableLookup_none hd hh hm hv h
 repeat (any_goals (first | assumption | (refine tl _ _ ?_; intro h' tk hk; have hq:=h h' tk hk) | wp_step | simp only [hall]))
theorem tr_code_has {prog:Program} {w:World} {A:Around} {E:Value→Shared→Prop} {s:Shared} {d:Addr} {f:Int→Option Value} {c b:Nat} {t t':Tok} {Q:Fin→Shared→Prop} (hc:c < 128)
  (hm:s.heap.MapOf (intKind prog w) d f) (hv:f c=some (.str (ofL [b,c]) t')) (h:∀ tk,Q (.done (.ret (.str (ofL [b,c]) tk))) { s with toks:=tk + 1 }) :
  wpAny (model prog w) A (Builtin.«str.translate» ⟨[.str ⟨#[c]⟩ t,.ref d],[]⟩) Q E s:=by
 have hall:(({ cps:=#[c] }:PySem.Str).cps.all fun x=>decide (x < 128))=true:=by simp [hc]
 unfold Builtin.«str.translate»
 generalize hT:@tableLookup=T
 have tl:∀ (Q':Mapped→Shared→Prop) (E':Value→Shared→Prop) (tk:Nat),Q' (.text (ofL [b,c])) { s with toks:=tk + 1 + 1 }→wpAny (model prog w) A (T (.ref d) c) Q' E' { s with toks:=tk }:=by
  subst hT
  exact fun Q' E' tk h=>tableLookup_has hm hv h
 repeat (any_goals (first | assumption | (refine tl _ _ _ ?_) | wp_step | simp only [hall]))
 have e:({ cps:=List.foldl (fun acc (p:PySem.Str)=>acc++p.cps) #[] [ofL [b,c]].reverse }:PySem.Str)=ofL [b,c]:=by apply Str.ext'; simp [ofL]
 rw [e]; exact h _
def specL:List Nat:=[40,41,91,93,123,125,63,42,43,45,124,94,36,92,46,38,126,35,32,9,10,13,11,12]
def escL (c:Nat):List Nat:=if c∈specL then [92,c] else [c]
def SpecTab (g:Gl) (d:Addr):Prop:=∀ F σ s,Sat g F σ s→(d == sysModules)=false∧∃ f:Int→Option Value,s.heap.MapOf (intKind g.prog g.w) d f∧∀ c:Nat,c < 128→if c∈specL then ∃ t,f c=some (.str (ofL [92,c]) t) else f c=none
theorem CL_translate {c:Nat} {d:Addr} (hr:Rm A 0) (hd:SpecTab g d) (hc:c < 128) (h:P (tx (escL c)) σ):CL g A F (.builtin "str.translate") [tx [c],.raw (.ref d)] σ P:=by
 intro s vs S hvs Q E k
 cases hvs with | cons hv hs=>cases hs with | cons hu hs=>cases hs; cases hv; cases hu; (
  obtain ⟨h1,f,h2,h3⟩:=hd F σ s S
  refine wpAny_call_entry slot_tr (typeIs_str _ _ _) entry_tr ?_ (args_tr _ _)
  have h3:=h3 c hc
  unfold escL at h
  by_cases hcs:c∈specL
  ·rw [if_pos hcs] at h h3
   obtain ⟨t',h3⟩:=h3
   refine tr_code_has hc h2 h3 fun tk=>⟨_,rfl,?_⟩
   exact k _ _ σ _ h (S.toks _) (.str _ _) .toks
  ·rw [if_neg hcs] at h h3
   refine tr_code_none h1 hr.handled hc h2 h3 fun h' tk hk=>⟨_,rfl,?_⟩
   exact k _ _ σ _ h (S.keeps hk) (.str _ _) (.keeps hk))
theorem CL_replace_none {l a b:List Nat} (ho:(occurrences (ofL l) (ofL a) 0 (ofL l).length ((ofL l).length + 1)).isEmpty=true) (h:P (tx l) σ):CL g A F (.builtin "str.replace") [tx l,tx a,tx b] σ P:=by
 intro s vs S hvs Q E k
 cases hvs with | cons hv hs=>cases hs with | cons hu hs=>cases hs with | cons hw hs=>cases hs; cases hv; cases hu; cases hw; (
  rename_i t u v
  have hc:((occurrences (ofL l) (ofL a) 0 (ofL l).length ((ofL l).length + 1)).isEmpty || ((ofL a).length == 0 && (ofL b).length == 0))=true:=by rw [ho]; rfl
  refine call_gives PySem.F.slot_str_replace (typeIs_str _ _ _) PySem.F.entry_str_replace (PySem.F.args_str_replace_3 _ _ _)
   (gives_str_replace (ofL l) (ofL a) (ofL b) t u v fun q=>by rw [hc] at q; cases q) ?_
  simp only [hc,if_true]
  exact k _ _ σ _ h S (.str _ _) .refl)
theorem mro_object:mroOf (.type "object")=pure [.type "object"]:=by kernel_rfl
theorem lookup_object_new:typeLookup (.type "object") "__new__" = pure (some (.builtin "object.__new__")):=by rw [typeLookup_type,builtinLookup_eq_fast]; kernel_rfl
theorem slot_object_init:Slot "object" "__init__" "object.__init__":=.of (owner:="object") (n:="__init__") (by rw [typeLookup_type,builtinLookup_eq_fast]; kernel_rfl) (by decide +kernel) (by decide +kernel) (by decide +kernel)
 (by first | exact .inl (by decide +kernel) | exact .inr (by decide +kernel)) (by rw [isSubtype_type]; kernel_rfl)
theorem called_object:TypeCalled "object" "object.__new__" "object.__init__" :=
 ⟨by decide +kernel,by decide +kernel,⟨_,_,mro_object⟩,madeBy_type mro_object lookup_object_new (by decide +kernel),by decide +kernel,by rw [isSubtype_type]; kernel_rfl,slot_object_init⟩
theorem newCall_object:checkBuiltinCall "object.__new__" ⟨[.type "object"],[]⟩=pure ():=by kernel_rfl
theorem initArgs_object (o:Value):argsOk "object.__init__" ⟨[o],[]⟩:=by unfold argsOk; kernel_rfl
theorem entry_object_init:entryFor table "object.__init__" = some Builtin.«object.__init__»:=entryFor_of_tree (by kernel_rfl)
theorem plain_object_new:plainId "object.__new__" = true:=by decide +kernel
abbrev bareObj:Obj:={ cls:=.type "object",data:=.plain }
theorem madeHere_object:Bind.madeHere "object.__new__" (.type "object")=pure ():=by first | kernel_rfl | rfl
theorem object_call {prog:Program} {w:World} {A:Around} {E:Value→Shared→Prop} {s:Shared} {Q:Value→Shared→Prop} (h:Q (.ref s.heap.objs.size) { s with heap:=s.heap.push bareObj }):wpAny (model prog w) A (call (.type "object") []) Q E s:=by
 have f1:=madeHere_object
 refine ks_callType_codesW (Q₁:=fun obj s₁=>obj=.ref s.heap.objs.size∧s₁={ s with heap:=s.heap.push bareObj }) called_object ?_ entry_object_init ?_ fun obj s₁ h₁=>?_
 ·intro Q' E' hq
  refine wpAny_of_eq (a:=()) (by first | kernel_rfl | rfl) hq
 ·refine codeAny_of_tree ?_
  show wpAny _ A.in1.in1 (do checkBuiltinCall "object.__new__" ⟨[.type "object"],[]⟩; again (.builtin "object.__new__" ⟨[.type "object"],[]⟩)) _ _ s
  refine wpAny_bind (wpAny_of_eq newCall_object (wpAny_pure ⟨plainId_quiet plain_object_new _,codeAny_builtin PySem.F.entry_object_new ?_⟩))
  obtain ⟨hp,gg,d,tk,os⟩:=s
  unfold Builtin.«object.__new__»
  repeat (any_goals (first | assumption | wp_step))
  exact ⟨rfl,rfl⟩
 ·obtain ⟨rfl,rfl⟩:=h₁
  refine ⟨⟨_,Heap.get?_push_size _ rfl,rfl⟩,initArgs_object _,?_⟩
  obtain ⟨hp,gg,d,tk,os⟩:=s
  unfold Builtin.«object.__init__»
  repeat (any_goals (first | assumption | wp_step))
  exact ⟨rfl,h⟩
theorem CL_object (h:∀ a,P (.raw (.ref a)) ⟨σ.loc,(a,.obj bareObj) :: σ.zone⟩):CL g A F (.type "object") [] σ P:=by
 intro s vs S hvs Q E k
 cases hvs
 refine object_call ?_
 obtain ⟨S₂,st₂⟩:=S.newObj bareObj (by simp) (by simp)
 exact k _ _ _ _ (h _) S₂ (.raw _) st₂
end
end Mine
end SM20
section SM21
open PySem PySem.Calls PyProof.Rows PySem.W PySem.Builtin PySem.Builtin.ObjectAttr
namespace Mine
structure Fg (g:Gl) (K:Frag):Prop where
 in_:K.In g.h₁
 hard:∀ a o,K.lookup a=some o→o.cls≠.none
theorem Fg.now {g:Gl} {K:Frag} {F:Fm} {σ:AS} {s:Shared} (f:Fg g K) (S:Sat g F σ s):K.In s.heap:=fun a o e=>S.old.get_of_cls (f.in_ a o e) (f.hard a o e)
structure ClsOk (K:Frag) (C:Addr):Prop where
 dict:∃ cd,clsIn K C=some cd∧cd.hasDict=true
 gattr:findIn K (.ref C) "__getattr__" = some none
structure ClsObj (K:Frag) (C:Addr):Prop extends ClsOk K C where
 ga:findIn K (.ref C) "__getattribute__" = some (some (.builtin "object.__getattribute__"))
 sa:findIn K (.ref C) "__setattr__" = some (some (.builtin "object.__setattr__"))
 plain:plainOver K C=true
structure ClsLst (K:Frag) (C:Addr):Prop extends ClsOk K C where
 ga:findIn K (.ref C) "__getattribute__" = some (some (.builtin "list.__getattribute__"))
 sa:findIn K (.ref C) "__setattr__" = some (some (.builtin "object.__setattr__"))
 mro:∃ cd,clsIn K C=some cd∧cd.mro=[.ref C,.type "list",.type "object"]
def PV.handed:PV→Bool
 | .raw v=>handedIn v
 | _=>true
theorem VR.handed {h:Heap} {own:List Addr} {p:PV} {v:Value} (x:VR h own p v) (hp:p.handed=true):handedIn v=true:=by
 cases x with
 | raw v=>exact hp
 | _=>rfl
theorem AttR.find {h:Heap} {own:List Addr} {att:List (Str × PV)} {es:List DictEntry} (r:AttR h own att es) {name:Str} {p:PV} (e:att.lookup name=some p):∃ en,es.find? (·.key.isStr name)=some en∧VR h own p en.val:=by
 induction r with
 | nil=>simp at e
 | @cons x q v hs t att es hv r ih =>
  rw [List.lookup_cons] at e
  have e1:(Value.str x t).isStr name=(x == name):=rfl
  by_cases hx:(name == x)=true
  ·rw [hx] at e
   cases e
   have:name=x:=eq_of_beq hx
   subst this
   exact ⟨⟨hs,.str name t,v⟩,by rw [List.find?_cons]; simp [e1],hv⟩
  ·have hx':(name == x)=false:=by simpa using hx
   rw [hx'] at e
   obtain ⟨en,h1,h2⟩:=ih e
   have hx2:(x == name)=false:=by rw [beq_eq_false_iff_ne] at hx' ⊢; exact Ne.symm hx'
   exact ⟨en,by rw [List.find?_cons]; simp only [e1,hx2]; exact h1,h2⟩
theorem AttR.noref {h:Heap} {own:List Addr} {att:List (Str × PV)} {es:List DictEntry} (r:AttR h own att es):es.any (·.refKey)=false:=by
 induction r with
 | nil=>rfl
 | cons hv r ih=>rw [List.any_cons,ih]; rfl
theorem AttR.miss {h:Heap} {own:List Addr} {att:List (Str × PV)} {es:List DictEntry} (r:AttR h own att es) {name:Str} (e:att.lookup name=none):es.find? (·.key.isStr name)=none:=by
 induction r with
 | nil=>rfl
 | @cons x q v hs t att es hv r ih =>
  rw [List.lookup_cons] at e
  have e1:(Value.str x t).isStr name=(x == name):=rfl
  by_cases hx:(name == x)=true
  ·rw [hx] at e; cases e
  ·have hx':(name == x)=false:=by simpa using hx
   rw [hx'] at e
   have hx2:(x == name)=false:=by rw [beq_eq_false_iff_ne] at hx' ⊢; exact Ne.symm hx'
   rw [List.find?_cons]; simp only [e1,hx2]; exact ih e
abbrev dctObj (es:Array DictEntry) (n:Nat):Obj:={ cls:=.type "dict",data:=.dict es n }
theorem lookIn_has {h:Heap} {own:List Addr} {att:List (Str × PV)} {es:Array DictEntry} {n:Nat} (r:AttR h own att es.toList) {name:Str} {p:PV} (e:att.lookup name=some p):∃ v,lookIn name (dctObj es n)=some (some v)∧VR h own p v:=by
 obtain ⟨en,h1,h2⟩:=r.find e
 exact ⟨en.val,by unfold lookIn; dsimp only; rw [h1],h2⟩
theorem lookIn_not {h:Heap} {own:List Addr} {att:List (Str × PV)} {es:Array DictEntry} {n:Nat} (r:AttR h own att es.toList) {name:Str} (e:att.lookup name=none):lookIn name (dctObj es n)=some none:=by
 unfold lookIn; dsimp only; rw [r.miss e,r.noref]; rfl
theorem inst_at {h:Heap} {own:List Addr} {a dx C:Addr} {att:List (Str × PV)} {body:Option (List PV)} (z:ZR h own a (.inst dx C att body)) :
  ∃ d es n,InstAt h a { cls:=.ref C,dict:=some dx,data:=d } C (some (dctObj es n))∧BodyR h own body d∧AttR h own att es.toList:=by
 obtain ⟨d,es,n,h1,h2,h3,h4⟩:=z
 refine ⟨d,es,n,⟨h1,rfl,?_,h3⟩,h2,h4⟩
 cases body with
 | none=>rw [show d=.plain from h2]; rfl
 | some l=>obtain ⟨items,n',q,_⟩:=h2; rw [q]; rfl
theorem findObj_own {K:Frag} {C:Addr} {od:Obj} {name:Str} {v:Value} (ok:ClsOk K C) (hf:findIn K (.ref C) name=some none) (hl:lookIn name od=some (some v)):findObj K C (some od) name=some (.value v):=by
 obtain ⟨cd,hc,hd⟩:=ok.dict
 unfold findObj
 have ho:PySem.W.ownOf cd (some od) name=some (some v):=by unfold PySem.W.ownOf; rw [if_pos hd]; exact hl
 rw [hc,Option.bind_some,hf,Option.bind_some]
 simp only [Option.bind_some,ho]
section
variable {prog:Program} {w:World} {A:Around} {E:Value→Shared→Prop} {s:Shared} {K:Frag} {x C:Addr} {ox:Obj} {od:Option Obj} {name:Str} {expr:Bool} {Q:Value→Shared→Prop}
theorem canon_list_ga:Manifest.canonical "list.__getattribute__" = "object.__getattribute__":=by decide +kernel
theorem kind_list_ga:builtinKind "list.__getattribute__" = some .slot:=by decide +kernel
theorem split_list_ga:splitId "list.__getattribute__" = some ("list","__getattribute__"):=by decide +kernel
theorem get_value_lst {v:Value} (ok:ClsLst K C) (X:K.In s.heap) (I:InstAt s.heap x ox C od)
  (hf:findObj K C od name=some (.value v)) (hh:handedIn v=true) (h:Q v { s with toks:=s.toks + 1 }):wpAny (model prog w) A (getAttr (.ref x) name expr) Q E s:=by
 obtain ⟨hh',g,d,t,os⟩:=s
 have L0:=I.type (M:=model prog w)
 have L1:=looks_findIn (M:=model prog w) X ok.ga
 have L2:=looks_findIn (M:=model prog w) X ok.gattr
 have L3:=looks_find (M:=model prog w) X I hf
 obtain ⟨cd,hc,hm⟩:=ok.mro
 have sub:Looks (model prog w) hh' (isInstance (.ref x) (.type "list")) true:=L0.andThen (looks_mroIn X (by unfold mroIn; rw [hc,Option.bind_some,hm]; rfl))
 dsimp only at X L0 L1 L2 L3
 unfold getAttr getAttrBy
 refine wpAny_bind (wpAny_mkText (wpAny_holding (wpAny_bind (L0.at (wpAny_bind (L1.at ?_))))))
 show wpAny _ _ (getAttrByItsOwn _ _ _ _ _ _) _ _ _
 unfold getAttrByItsOwn hookBefore callGetattribute boundAndCalled
 refine wpAny_bind (L2.at ?_)
 refine wpAny_bind (wpAny_attempt (wpAny_holding ?_))
 rw [show (expr && onTheHeap (Value.builtin "list.__getattribute__"))=false from by cases expr <;> rfl,if_neg (by decide)]
 rw [slot_list_ga.bind]
 refine wpAny_bind (wpAny_pure ?_)
 refine wpAny_call (codeAny_call_builtin slot_list_ga.plain entry_list_ga (@check_slot (model prog w) _ _ _ "list.__getattribute__" "list" "__getattribute__" (.ref x) [.str name t] [] _ kind_list_ga split_list_ga sub (PySem.F.args_list_getattribute_2 _ _) ?_))
 unfold Builtin.«object.__getattribute__»
 refine wpAny_bind (wpAny_pure (wpAny_bind (wpAny_pure (wpAny_bind (L0.at (wpAny_bind (L3.at ?_)))))))
 refine wpAny_pure ?_
 show wpAny _ _ (handedOut v) _ _ _
 rw [handedOut_of hh]; exact wpAny_pure h
theorem method_desc {f:Value} {ga:String} {tf:Value} (X:K.In s.heap) (I:InstAt s.heap x ox C od) (hga:findIn K (.ref C) "__getattribute__" = some (some (.builtin ga))) (hcan:Manifest.canonical ga = "object.__getattribute__") (hk:findIn K (.ref C) "__getattr__" = some none)
  (hf:findIn K (.ref C) name=some (some f)) (ht:typeIn K f=some tf) (htf:(tf != .type "function" && tf != .type "method_descriptor" && tf != .type "wrapper_descriptor")=false) (hs:shadowIn od name=some false) {pl:Sem Bool} {Q:Value × List Value→Shared→Prop} (h:Q (f,[.ref x]) s) :
  wpAny (model prog w) A (getMethod (.ref x) name pl) Q E s:=by
 have hcan':(Manifest.canonical ga != "object.__getattribute__")=false:=by rw [hcan]; exact bne_self_eq_false _
 unfold getMethod specialOf
 refine wpAny_bind (wpAny_bind (I.type.here ((looks_findIn X hga).here ?_)))
 dsimp only
 rw [hcan',if_neg (by decide)]
 refine wpAny_bind (wpAny_bind (I.type.here ((looks_findIn X hk).here ?_)))
 refine wpAny_bind (wpAny_bind (I.type.here ((looks_findIn X hf).here (wpAny_bind ((looks_typeIn X ht).here ?_)))))
 rw [htf,if_neg (by decide)]
 refine wpAny_bind (wpAny_loadPart I.at_ ?_)
 have hd:=I.dict
 cases e:ox.dict with
 | none=>exact wpAny_bind (wpAny_rule (wpAny_pure h))
 | some dx =>
  cases od with
  | none=>rw [e] at hd; exact hd.elim
  | some o =>
   rw [e] at hd
   obtain ⟨r,a,b⟩:=Option.map_eq_some_iff.mp hs
   refine wpAny_bind (wpAny_bind (wpAny_loadPart hd ?_))
   rw [nsLook_of a]
   refine wpAny_pure ?_
   rw [b]
   exact wpAny_bind (wpAny_rule (wpAny_pure h))
end
inductive ClsAny (K:Frag) (C:Addr):Prop
 | obj (h:ClsObj K C)
 | lst (h:ClsLst K C)
theorem ClsAny.ok {K:Frag} {C:Addr} (h:ClsAny K C):ClsOk K C:=by cases h with | obj h=>exact h.toClsOk | lst h=>exact h.toClsOk
section
variable {g:Gl} {A:Around} {F:Fm} {σ:AS} {s:Shared} {P:PV→AS→Prop} {K:Frag}
theorem EV_Attr {o:Expr} {name:Str} {pos:Pos} (hK:Fg g K)
  (h:EV g A F o σ fun p σ₁=>∃ x dx C att body q,p=.raw (.ref x)∧(x,.inst dx C att body)∈σ₁.zone∧ClsAny K C∧findIn K (.ref C) name=some none∧att.lookup name=some q∧q.handed=true∧P q σ₁)
  (he:eval (.Attribute o name pos) F.env=(do
   let ov ← eval o F.env
   standAt pos.atName
   let r ← holding [ov] (getAttr ov name true)
   letTemporaryGo o ov r
   pure r):=by with_unfolding_all rfl):EV g A F (.Attribute o name pos) σ P:=by
 intro s S Q E k
 rw [he]
 refine wpAny_bind (h s S _ E fun v p σ₁ s₁ h₁ S₁ hv st₁=>?_)
 obtain ⟨x,dx,C,att,body,q,rfl,hz,hC,hf,hl,hq,hP⟩:=h₁
 cases hv
 obtain ⟨d,es,n,I,hb,r⟩:=inst_at (S₁.zs _ hz)
 obtain ⟨v,hv1,hv2⟩:=lookIn_has (n:=n) r hl
 have hfo:=findObj_own hC.ok hf hv1
 refine wpAny_bind (wpAny_standAt (wpAny_bind (wpAny_holding ?_)))
 have fin:∀ tk,wpAny (model g.prog g.w) A (letTemporaryGo o (.ref x) v>>=fun _=>pure v) Q E { s₁ with toks:=tk }:=fun tk=>by
  exact wpAny_bind (wpAny_letTemporaryGo (wpAny_pure (k v q σ₁ _ hP (S₁.toks _) hv2 (st₁.trans .toks))))
 cases hC with
 | obj hc=>exact get_value (hK.now S₁) I hc.ga hfo (hv2.handed hq) (fin _)
 | lst hc=>exact get_value_lst hc (hK.now S₁) I hfo (hv2.handed hq) (fin _)
theorem getMethod_inst {x dx C:Addr} {att:List (Str × PV)} {body:Option (List PV)} {name:Str} {f tf:Value} {pl:Sem Bool} {Q:Value × List Value→Shared→Prop} {E:Value→Shared→Prop} (hK:Fg g K) (hC:ClsAny K C) (S:Sat g F σ s) (hz:(x,.inst dx C att body)∈σ.zone)
  (hf:findIn K (.ref C) name=some (some f)) (ht:typeIn K f=some tf) (htf:(tf != .type "function" && tf != .type "method_descriptor" && tf != .type "wrapper_descriptor")=false) (hl:att.lookup name=none) (h:Q (f,[.ref x]) s):wpAny (model g.prog g.w) A (getMethod (.ref x) name pl) Q E s:=by
 obtain ⟨d,es,n,I,hb,r⟩:=inst_at (S.zs _ hz)
 have hsh:shadowIn (some (dctObj es n)) name=some false:=by show Option.map _ (lookIn name (dctObj es n))=_; rw [lookIn_not r hl]; rfl
 cases hC with
 | obj hc=>exact method_desc (hK.now S) I hc.ga (by decide +kernel) hc.gattr hf ht htf hsh h
 | lst hc=>exact method_desc (hK.now S) I hc.ga canon_list_ga hc.gattr hf ht htf hsh h
theorem EV_MethFn {o:Expr} {name:Str} {apos pos:Pos} {args:List Expr} {pl:Sem Bool} (hK:Fg g K)
  (h:EV g A F o σ fun p σ₁=>∃ x dx C att body f fd bd,p=.raw (.ref x)∧(x,.inst dx C att body)∈σ₁.zone∧ClsAny K C∧findIn K (.ref C) name=some (some (.ref f))∧typeIn K (.ref f)=some (.type "function")∧att.lookup name=none∧FnAt g f fd bd ∧
   EVs g A F args σ₁ fun ps σ₂=>CL g A F (.ref f) (.raw (.ref x) :: ps) σ₂ P)
  (he:eval (.Call (.Attribute o name apos) args [] pos) F.env=(do
   let ov ← eval o F.env
   standAt apos.atName
   let (f,first) ← holding [ov] (getMethod ov name pl)
   callWith pos f first (backTo pos (starEach args F.env)) []):=by with_unfolding_all rfl)
  (hns:(backTo pos (starEach args F.env)).any (·.1)=false:=by with_unfolding_all rfl):EV g A F (.Call (.Attribute o name apos) args [] pos) σ P:=by
 intro s S Q E k
 refine MethodCall_ (pl:=pl) (h s S _ E fun v p σ₁ s₁ h₁ S₁ hv st₁=>?_) he
 obtain ⟨x,dx,C,att,body,f,fd,bd,rfl,hz,hC,hf,ht,hl,hfn,h₁⟩:=h₁
 cases hv
 refine getMethod_inst hK hC S₁ hz hf ht (by decide) hl ?_
 obtain ⟨o,e,hd⟩:=hfn.now S₁
 refine callWith_function (o:=o) (fd:=fd) (evalArgs_EVs h₁ hns S₁ fun vs ps σ₂ s₂ h₂ S₂ hvs st₂=>?_)
 obtain ⟨o',e',hd'⟩:=hfn.now S₂
 have:o'=o:=by
  obtain ⟨o₀,e₀,hc₀,hd₀⟩:=hfn.at_
  have q1:=S₂.old.get_of_cls e₀ hc₀
  have q2:=S₁.old.get_of_cls e₀ hc₀
  exact (Option.some.inj (e'.symm.trans q1)).trans (Option.some.inj (e.symm.trans q2)).symm
 subst this
 refine ⟨⟨e',hd⟩,h₂ s₂ (.ref x :: vs) S₂ (.cons (.raw _) hvs) Q E fun a b σ' s' h' S' hr st'=>k a b σ' s' h' S' hr (st₁.trans (st₂.trans st'))⟩
theorem EV_MethB {o:Expr} {name:Str} {apos pos:Pos} {args:List Expr} {pl:Sem Bool} (hK:Fg g K)
  (h:EV g A F o σ fun p σ₁=>∃ x dx C att body id tf,p=.raw (.ref x)∧(x,.inst dx C att body)∈σ₁.zone∧ClsAny K C∧findIn K (.ref C) name=some (some (.builtin id))∧typeIn K (.builtin id)=some tf∧(tf != .type "function" && tf != .type "method_descriptor" && tf != .type "wrapper_descriptor")=false∧att.lookup name=none ∧
   EVs g A F args σ₁ fun ps σ₂=>CL g A F (.builtin id) (.raw (.ref x) :: ps) σ₂ P)
  (he:eval (.Call (.Attribute o name apos) args [] pos) F.env=(do
   let ov ← eval o F.env
   standAt apos.atName
   let (f,first) ← holding [ov] (getMethod ov name pl)
   callWith pos f first (backTo pos (starEach args F.env)) []):=by with_unfolding_all rfl)
  (hns:(backTo pos (starEach args F.env)).any (·.1)=false:=by with_unfolding_all rfl):EV g A F (.Call (.Attribute o name apos) args [] pos) σ P:=by
 intro s S Q E k
 refine MethodCall_ (pl:=pl) (h s S _ E fun v p σ₁ s₁ h₁ S₁ hv st₁=>?_) he
 obtain ⟨x,dx,C,att,body,id,tf,rfl,hz,hC,hf,ht,htf,hl,h₁⟩:=h₁
 cases hv
 refine getMethod_inst hK hC S₁ hz hf ht htf hl ?_
 refine callWith_builtin hns (evalArgs_EVs h₁ hns S₁ fun vs ps σ₂ s₂ h₂ S₂ hvs st₂=>?_)
 refine h₂ s₂ (.ref x :: vs) S₂ (.cons (.raw _) hvs) Q E fun a b σ' s' h' S' hr st'=>k a b σ' s' h' S' hr (st₁.trans (st₂.trans st'))
end
end Mine
end SM21
section SM22
open PySem PySem.Calls PyProof.Rows PySem.W PySem.Builtin PySem.Builtin.ObjectAttr
namespace Mine
theorem AttR.put {h:Heap} {own:List Addr} {att:List (Str × PV)} {es:List DictEntry} (r:AttR h own att es) {name:Str} {hs:Int} {t:Tok} {p:PV} {v:Value} (hv:VR h own p v) :
  AttR h own (setL name p att) (nsPutIn name.cps.size name.cps.toList (fun | some e=>{ e with val:=v } | none=>⟨hs,.str name t,v⟩) es).1:=by
 induction r with
 | nil=>exact .cons hv .nil
 | @cons x q u hs' t' att es hu r ih =>
  have e1:(Value.str x t').isStrByCps name.cps.size name.cps.toList=(x == name):=by rw [Value.isStrByCps_eq]; rfl
  unfold setL nsPutIn
  by_cases hx:(x == name)=true
  ·rw [if_pos hx,if_pos (by rw [e1]; exact hx)]
   have:x=name:=eq_of_beq hx
   subst this
   exact .cons hv r
  ·rw [if_neg hx,if_neg (by rw [e1]; exact hx)]
   exact .cons hu ih
theorem AttR.length {h:Heap} {own:List Addr} {att:List (Str × PV)} {es:List DictEntry} (r:AttR h own att es):es.length=att.length:=by
 induction r with
 | nil=>rfl
 | cons _ _ ih=>simp [ih]
theorem putName_dct {name:Str} {hs:Int} {key v:Value} {es:Array DictEntry} {n:Nat}:∃ n',Obj.putName name hs key v (dctObj es n)=dctObj (nsPutIn name.cps.size name.cps.toList (fun | some e=>{ e with val:=v } | none=>⟨hs,key,v⟩) es.toList).1.toArray n':=by
 unfold Obj.putName
 dsimp only
 generalize nsPutIn name.cps.size name.cps.toList (fun | some e=>{ e with val:=v } | none=>⟨hs,key,v⟩) es.toList=r
 obtain ⟨es',b⟩:=r
 cases b
 ·exact ⟨n,rfl⟩
 ·exact ⟨n + 1,rfl⟩
section
variable {prog:Program} {w:World} {A:Around} {E:Value→Shared→Prop} {s:Shared} {K:Frag} {x C dx:Addr} {ox:Obj} {name:Str}
theorem store_own {es:Array DictEntry} {n:Nat} {tk:Tok} {v:Value} {b:Bool} {Q:Fin→Shared→Prop} (ok:ClsOk K C) (X:K.In s.heap) (I:InstAt s.heap x ox C (some (dctObj es n))) (hd:ox.dict=some dx) (hz:es.size≤100)
    (hr : es.toList.any (·.refKey) = false)
    (h : ∀ hs h', h' = s.heap.update dx (Obj.putName name hs (.str name s.toks) v) → h'.get? dx = some (Obj.putName name hs (.str name s.toks) v (dctObj es n)) → Heap.SameBut dx s.heap h' → Q (.done (.ret .none)) { s with heap := h', toks := s.toks + 1 }) :
    wpAny (model prog w) A (storeInOwnDict (.ref x) (.ref C) (.str name tk) name v b) Q E s := by
  obtain ⟨cd, hc, hd'⟩ := ok.dict
  obtain ⟨hx, hcl, hn, D⟩ := I
  obtain ⟨oc, odi, oda, osl⟩ := ox
  dsimp only at hcl hd
  subst hcl hd
  refine wpAny_bind (wpAny_pure (wpAny_bind (wpAny_bind (wpAny_loadPart hx (wpAny_bind ((looks_clsIn X hc).here ?_))))))
  rw [hd']
  refine wpAny_pure (a := some dx) (wpAny_bind (wpAny_pure (wpAny_bind ?_)))
  unfold nsSet
  refine wpAny_bind (wpAny_bind (wpAny_askSetting (wpAny_pure (wpAny_bind (wpAny_mkText (wpAny_bind (wpAny_loadPart D ?_)))))))
  dsimp only
  have c : (!es.any (·.key.isStr name) && es.any (·.refKey)) = false := by
    rw [← Array.any_toList (as := es) (p := (·.refKey)), hr, Bool.and_false]
  rw [aRefKeyMayBeTheName_at, c]
  refine wpAny_updatePart D ?_
  obtain ⟨n', en⟩ := putName_dct (name := name) (hs := PyData.keyHash w.params name) (key := .str name s.toks) (v := v) (es := es) (n := n)
  have D' := Heap.get?_update_self (Obj.putName name (PyData.keyHash w.params name) (.str name s.toks) v) D (by rw [en]; rfl)
  refine wpAny_bind (wpAny_lookBehind (D'.trans (congrArg some en)) ?_ ?_)
  · refine pastItsLine_dict ?_
    have h1 : (nsPutIn name.cps.size name.cps.toList (fun | some e => { e with val := v } | none => ⟨PyData.keyHash w.params name, .str name s.toks, v⟩) es.toList).1.length ≤ es.size + 1 := by
      have : ∀ l : List DictEntry, (nsPutIn name.cps.size name.cps.toList (fun | some e => { e with val := v } | none => ⟨PyData.keyHash w.params name, .str name s.toks, v⟩) l).1.length ≤ l.length + 1 := by
        intro l
        induction l with
        | nil => exact Nat.le_refl _
        | cons e r ih => unfold nsPutIn; split
                         · simp
                         · simp only [List.length_cons]; omega
      have := this es.toList
      simpa using this
    rw [List.size_toArray, sizeLine_eq]; omega
  · exact wpAny_pure (h _ _ rfl D' (.update ..))
theorem pass_list (self:Value):refuseLoop self "__setattr__" [.type "list",.type "object"]=pure ():=by kernel_rfl
theorem osa_openL {R:Result→Shared→Prop} {od:Option Obj} {tk:Tok} {v:Value} {r:Option Value} (ok:ClsLst K C) (X:K.In s.heap) (I:InstAt s.heap x ox C od) (ht:takerIn K C name=some r)
  (h:∀ b,wpAny (model prog w) A.in1 (match r with | some a=>setByDescriptor a (.ref x) v | none=>storeInOwnDict (.ref x) (.ref C) (.str name tk) name v b)
   (fun fin s'=>match fin with | .done f=>R (.ok f) s' | .again c'=>c'.quiet=true∧codeAny (model prog w) A c' R s') (fun e s'=>R (.error e) s') s) :
  codeAny (model prog w) A (.call (.builtin "object.__setattr__") ⟨[.ref x,.str name tk,v],[]⟩) R s:=by
 have SF:=PySem.F.store_object
 obtain ⟨cd,hc,ho⟩:=ok.mro
 have sub:Looks (model prog w) s.heap (isInstance (.ref x) (.type "object")) true:=I.type.andThen (looks_mroIn X (by unfold mroIn; rw [hc,Option.bind_some,ho]; rfl))
 refine codeAny_call_builtin SF.slot.plain SF.entry (@check_slot (model prog w) _ _ s "object.__setattr__" "object" "__setattr__" (.ref x) [.str name tk,v] [] _ SF.kind SF.split sub (SF.args (.ref x) (.str name tk) v) ?_)
 obtain ⟨attr,ha,hr⟩:=Option.bind_eq_some_iff.mp ht
 have hm:Looks (model prog w) s.heap (mroOf (.ref C)) cd.mro:=(looks_clsIn X hc).andThen .now
 have L3:Looks (model prog w) s.heap (storeTaker? attr) r:=by
  cases attr with
  | none=>cases hr; exact .now
  | some a =>
   obtain ⟨b,hb,rfl⟩:=Option.map_eq_some_iff.mp hr
   refine (looks_takesIn X hb).andThen ?_
   cases b <;> exact .now
 rw [osa_eq,refuse_eq]
 refine wpAny_bind (wpAny_bind (I.type.here (wpAny_bind (hm.here ?_))))
 rw [ho,refuseLoop_ref,pass_list]
 refine wpAny_pure (wpAny_bind (I.type.here (wpAny_bind ((looks_findIn X ha).here (wpAny_bind (L3.here ?_))))))
 exact h _
end
section
variable {g:Gl} {A:Around} {F:Fm} {σ:AS} {s:Shared} {K:Frag}
theorem setAttr_inst {x dx C:Addr} {att:List (Str × PV)} {body:Option (List PV)} {name:Str} {v:Value} {p:PV} {zone':List (Addr × MO)} {Q:Unit→Shared→Prop} {E:Value→Shared→Prop} (hK:Fg g K) (hC:ClsAny K C) (S:Sat g F σ s)
  (U:ZAt x (.inst dx C att body) (.inst dx C (setL name p att) body) σ.zone zone') (hf:findIn K (.ref C) name=some none) (hv:VR s.heap σ.own p v) (hz:att.length≤100)
  (k:∀ s',Sat g F ⟨σ.loc,zone'⟩ s'→Stp [] σ.own s (AS.own ⟨σ.loc,zone'⟩) s'→Q () s'):wpAny (model g.prog g.w) A (setAttr (.ref x) name v) Q E s:=by
 obtain ⟨pre,post,e1,e2⟩:=U.split
 obtain ⟨d,es,n,h1,h2,h3,h4⟩:=S.zs (x,.inst dx C att body) (by rw [e1]; simp)
 have hnc:notCls { cls:=.ref C,dict:=some dx,data:=d }=true:=by
  cases body with
  | none=>rw [show d=.plain from h2]; rfl
  | some l=>obtain ⟨items,n',q,_⟩:=h2; rw [q]; rfl
 have I:InstAt s.heap x { cls:=.ref C,dict:=some dx,data:=d } C (some (dctObj es n)):=⟨h1,rfl,hnc,h3⟩
 have ht:takerIn K C name=some none:=by unfold takerIn; rw [hf]; rfl
 have hlen:=h4.length
 simp only [Array.length_toList] at hlen
 have hxd:x≠dx:=by
  have nd:=(List.nodup_append.mp S.nd).2.1
  unfold AS.own at nd
  rw [e1] at nd
  simp only [List.flatMap_append,List.flatMap_cons,MO.addrs] at nd
  have:=(List.nodup_append.mp (List.nodup_append.mp nd).2.1).1
  intro q; subst q
  simp at this
 have store:∀ (A':Around) (b:Bool) (s₁:Shared) (tk:Tok) (Q':Fin→Shared→Prop) (E':Value→Shared→Prop),s₁={ s with toks:=s.toks + 1 }→(∀ s',Sat g F ⟨σ.loc,zone'⟩ s'→Stp [] σ.own s (AS.own ⟨σ.loc,zone'⟩) s'→Q' (.done (.ret .none)) s')→wpAny (model g.prog g.w) A' (storeInOwnDict (.ref x) (.ref C) (.str name tk) name v b) Q' E' s₁:=by
  rintro A' b _ tk Q' E' rfl hq
  refine store_own hC.ok (hK.now (S.toks _)) I rfl (by omega) h4.noref fun hs h' eh D' hsb=>?_
  obtain ⟨n',en⟩:=putName_dct (name:=name) (hs:=hs) (key:=.str name (s.toks + 1)) (v:=v) (es:=es) (n:=n)
  have keepx:∀ b o,b∉(MO.inst dx C att body).addrs x→s.heap.get? b=some o→h'.get? b=some o:=fun b o hb e=>hsb.extBut b o (fun q=>hb (by simp [MO.addrs,q])) e
  obtain ⟨S',st⟩:=S.upd U rfl (h':=h') keepx fun kp=>⟨d,_,n',hsb.extBut x _ hxd h1,(by
   cases body with
   | none=>exact h2
   | some l=>obtain ⟨items,n₂,q1,q2⟩:=h2; exact ⟨items,n₂,q1,q2.mono kp⟩),D'.trans (congrArg some en),by
    have:=(h4.mono kp).put (name:=name) (hs:=hs) (t:=s.toks + 1) (hv.mono kp)
    simpa using this⟩
  exact hq _ (S'.toks _) (st.trans .toks)
 have hsa:findIn K (.ref C) "__setattr__" = some (some (.builtin "object.__setattr__")):=by cases hC with | obj h=>exact h.sa | lst h=>exact h.sa
 refine set_plain (hK.now S) I hsa ?_
 cases hC with
 | obj hc =>
  refine osa_open (s:={ s with toks:=s.toks + 1 }) (hK.now (S.toks _)) I hc.plain ht fun b=>?_
  exact store _ b _ _ _ _ rfl fun s' S' st=>k s' S' st
 | lst hc =>
  refine osa_openL (s:={ s with toks:=s.toks + 1 }) hc (hK.now (S.toks _)) I ht fun b=>?_
  exact store _ b _ _ _ _ rfl fun s' S' st=>k s' S' st
theorem EX_Assign_Attr {o value:Expr} {name:Str} {tpos pos:Pos} {P:Fl→AS→Prop} (hK:Fg g K)
  (h:EV g A F value σ fun q σ₁=>EV g A F o σ₁ fun p σ₂=>∃ x dx C att body zone',p=.raw (.ref x)∧ClsAny K C∧ZAt x (.inst dx C att body) (.inst dx C (setL name q att) body) σ₂.zone zone'∧findIn K (.ref C) name=some none∧att.length≤100∧P .next ⟨σ₂.loc,zone'⟩)
  (hs:swapsWith value (some (.Attribute o name tpos)) pos.line F.env=pure false:=by with_unfolding_all rfl):EX g A F (.Assign [.Attribute o name tpos] value pos) σ P:=by
 intro s S Q E k
 rw [plainObj_exec_Assign_Attribute o name tpos value pos hs]
 refine wpAny_bind (wpAny_standAt (wpAny_bind (h s S _ E fun v q σ₁ s₁ h₁ S₁ hv st₁=>?_)))
 rw [assign_Attribute]
 refine wpAny_bind (wpAny_bind (wpAny_holding ?_))
 refine h₁ s₁ S₁ _ E fun ov p σ₂ s₂ h₂ S₂ hp st₂=>?_
 obtain ⟨x,dx,C,att,body,zone',rfl,hC,U,hf,hz,hP⟩:=h₂
 cases hp
 refine wpAny_bind (wpAny_standAt (wpAny_bind (wpAny_holding ?_)))
 refine setAttr_inst hK hC S₂ U hf (hv.mono (S₁.kp st₂)) hz fun s₃ S₃ st₃=>?_
 refine wpAny_release (wpAny_pure ?_)
 exact k .next .next _ s₃ hP S₃ .next (Stp.up (st₁.trans (st₂.trans st₃)))
end
end Mine
end SM22
section SM23
open PySem PySem.Calls PyProof.Rows PySem.W PySem.Builtin PySem.Builtin.ObjectAttr
namespace Mine
section
variable {prog:Program} {w:World} {A:Around} {E:Value→Shared→Prop} {s:Shared} {K:Frag} {x C dx:Addr} {ox:Obj} {od:Option Obj} {name:Str}
theorem check_meth {M:Model} {i owner n:String} {self:Value} {rest:List Value} {Q:Unit→Shared→Prop}
  (hk:builtinKind i=some .method) (hs:splitId i=some (owner,n)) (hi:Looks M s.heap (isInstance self (.type owner)) true) (ha:argsOk i ⟨self :: rest,[]⟩) (q:Q () s) :
  wpAny M A (checkBuiltinCall i ⟨self :: rest,[]⟩) Q E s:=by
 simp only [checkBuiltinCall,hk,hs]
 refine wpAny_bind (hi.here ?_)
 simp only [Bool.not_true,Bool.false_eq_true,if_false]
 cases hsig:Manifest.signature? i with
 | none=>exact wpAny_pure q
 | some sig =>
  simp only [argsOk,hsig] at ha
  have h2:Bind.checkArgs i sig ⟨self :: rest,[]⟩=pure ():=ha
  show wpAny M A (Bind.checkArgs i sig ⟨self :: rest,[]⟩) Q E s
  rw [h2]; exact wpAny_pure q
structure LstId (id n:String) (b:Builtin):Prop where
 kind:builtinKind id=some .method∨builtinKind id=some .slot
 split:splitId id=some ("list",n)
 entry:entryFor table id=some b
 plain:plainId id=true
theorem isList (ok:ClsLst K C) (X:K.In s.heap) (I:InstAt s.heap x ox C od):Looks (model prog w) s.heap (isInstance (.ref x) (.type "list")) true:=by
 obtain ⟨cd,hc,ho⟩:=ok.mro
 exact I.type.andThen (looks_mroIn X (by unfold mroIn; rw [hc,Option.bind_some,ho]; rfl))
theorem code_inst {id n:String} {b:Builtin} {rest:List Value} {R:Result→Shared→Prop} (L:LstId id n b) (ok:ClsLst K C) (X:K.In s.heap) (I:InstAt s.heap x ox C od) (ha:argsOk id ⟨.ref x :: rest,[]⟩)
  (h:wpAny (model prog w) A.in1 (b ⟨.ref x :: rest,[]⟩) (fun fin s'=>match fin with | .done f=>R (.ok f) s' | .again c'=>c'.quiet=true∧codeAny (model prog w) A c' R s') (fun e s'=>R (.error e) s') s) :
  codeAny (model prog w) A (.call (.builtin id) ⟨.ref x :: rest,[]⟩) R s:=by
 refine codeAny_call_builtin L.plain L.entry ?_
 have hl:=isList (prog:=prog) (w:=w) ok X I
 rcases L.kind with hk | hk
 ·exact check_meth hk L.split hl ha h
 ·exact @check_slot (model prog w) _ _ s id "list" n (.ref x) rest [] _ hk L.split hl ha h
theorem call_inst {id n:String} {b:Builtin} {rest:List Value} {Q:Value→Shared→Prop} (L:LstId id n b) (ok:ClsLst K C) (X:K.In s.heap) (I:InstAt s.heap x ox C od) (ha:argsOk id ⟨.ref x :: rest,[]⟩)
  (h:wpAny (model prog w) A.in1 (b ⟨.ref x :: rest,[]⟩) (fun fin s'=>∃ v,fin=.done (.ret v)∧Q v s') E s):wpAny (model prog w) A (call (.builtin id) (.ref x :: rest)) Q E s:=by
 refine wpAny_call (code_inst L ok X I ha (wpAny_mono h (fun fin s' q=>?_) fun _ _ z=>z))
 obtain ⟨v,rfl,hq⟩:=q
 exact hq
theorem special_inst {id:String} {args:List Value} {Q:Option Value→Shared→Prop} (X:K.In s.heap) (I:InstAt s.heap x ox C od) (hf:findIn K (.ref C) name=some (some (.builtin id))) (hb:∀ self,bindSpecial (.builtin id) self=pure (.builtin id,[self]))
  (h:wpAny (model prog w) A (call (.builtin id) (.ref x :: args)) (fun v=>Q (some v)) E s):wpAny (model prog w) A (callSpecial? (.ref x) name args) Q E s:=by
 refine wpAny_bind (wpAny_bind (I.type.here ((looks_findIn X hf).here (wpAny_holding ?_))))
 rw [hb]
 exact wpAny_bind (wpAny_pure (wpAny_bind (wpAny_mono h (fun _ _ z=>wpAny_pure z) fun _ _ z=>z)))
theorem seqKey_inst {k:Value} {nm:Str} {Q:Value→Shared→Prop} (ok:ClsLst K C) (X:K.In s.heap) (I:InstAt s.heap x ox C od) (h:Q k s):wpAny (model prog w) A (sequenceKey (.ref x) k nm) Q E s:=by
 obtain ⟨cd,hc,ho⟩:=ok.mro
 have L1:Looks (model prog w) s.heap (isSubtype (.ref C) (.type "collections.deque")) false:=looks_mroIn X (by unfold mroIn; rw [hc,Option.bind_some,ho]; rfl)
 unfold sequenceKey
 refine wpAny_bind (I.type.here ?_)
 show wpAny _ _ (seqItemTypes.anyM (fun n=>isSubtype (.ref C) (.type n))>>=_) _ _ _
 refine wpAny_bind ?_
 unfold seqItemTypes
 simp only [List.anyM]
 refine wpAny_bind (L1.here ?_)
 exact wpAny_pure (wpAny_pure h)
theorem getItem_inst {i:Value} {id:String} {Q:Value→Shared→Prop} (ok:ClsLst K C) (X:K.In s.heap) (I:InstAt s.heap x ox C od) (hf:findIn K (.ref C) "__getitem__" = some (some (.builtin id))) (hb:∀ self,bindSpecial (.builtin id) self=pure (.builtin id,[self]))
  (h:wpAny (model prog w) A (call (.builtin id) [.ref x,i]) Q E s):wpAny (model prog w) A (getItem (.ref x) i) Q E s:=by
 unfold getItem
 refine wpAny_holding (wpAny_bind (seqKey_inst ok X I (wpAny_bind (special_inst X I hf hb (wpAny_mono h (fun _ _ z=>wpAny_pure z) fun _ _ z=>z)))))
theorem setItem_inst {i v:Value} {id:String} {Q:Unit→Shared→Prop} (ok:ClsLst K C) (X:K.In s.heap) (I:InstAt s.heap x ox C od) (hf:findIn K (.ref C) "__setitem__" = some (some (.builtin id))) (hb:∀ self,bindSpecial (.builtin id) self=pure (.builtin id,[self]))
  (h:wpAny (model prog w) A (call (.builtin id) [.ref x,i,v]) (fun _=>Q ()) E s):wpAny (model prog w) A (setItem (.ref x) i v) Q E s:=by
 unfold setItem
 refine wpAny_holding (wpAny_bind (seqKey_inst ok X I (wpAny_bind (special_inst X I hf hb (wpAny_mono h (fun _ _ z=>wpAny_pure z) fun _ _ z=>z)))))
theorem id_append:LstId "list.append" "append" Builtin.«list.append»:=⟨by first | exact .inl (by decide +kernel) | exact .inr (by decide +kernel),by decide +kernel,entry_list_append,by decide +kernel⟩
theorem id_getitem:LstId "list.__getitem__" "__getitem__" Builtin.«list.__getitem__»:=⟨by first | exact .inl (by decide +kernel) | exact .inr (by decide +kernel),by decide +kernel,entryFor_of_tree (by kernel_rfl),by decide +kernel⟩
theorem id_setitem:LstId "list.__setitem__" "__setitem__" Builtin.«list.__setitem__»:=⟨by first | exact .inl (by decide +kernel) | exact .inr (by decide +kernel),by decide +kernel,entryFor_of_tree (by kernel_rfl),by decide +kernel⟩
theorem id_len:LstId "list.__len__" "__len__" Builtin.«list.__len__»:=⟨by first | exact .inl (by decide +kernel) | exact .inr (by decide +kernel),by decide +kernel,entryFor_of_tree (by kernel_rfl),by decide +kernel⟩
theorem id_pop:LstId "list.pop" "pop" Builtin.«list.pop»:=⟨by first | exact .inl (by decide +kernel) | exact .inr (by decide +kernel),by decide +kernel,entryFor_of_tree (by kernel_rfl),by decide +kernel⟩
theorem id_iter:LstId "list.__iter__" "__iter__" Builtin.«list.__iter__»:=⟨by first | exact .inl (by decide +kernel) | exact .inr (by decide +kernel),by decide +kernel,entryFor_of_tree (by kernel_rfl),by decide +kernel⟩
theorem id_init:LstId "list.__init__" "__init__" Builtin.«list.__init__»:=⟨by first | exact .inl (by decide +kernel) | exact .inr (by decide +kernel),by decide +kernel,entryFor_of_tree (by kernel_rfl),by decide +kernel⟩
theorem run_getitem_int {items:Array Value} {n:Nat} {k:Int} {oc:Value} {od':Option Addr} {t:Tok} {v:Value} {Q:Fin→Shared→Prop} (hx:s.heap.get? x=some { cls:=oc,dict:=od',data:=.seq items n }) (hz:items.size≤16777216) (h0:0≤k) (hj:items[k.toNat]?=some v) (hq:Q (.done (.ret v)) s) :
  wpAny (model prog w) A (Builtin.«list.__getitem__» ⟨[.ref x,.int k t],[]⟩) Q E s:=by
 have hjz:k.toNat < items.size:=by
  rcases Nat.lt_or_ge k.toNat items.size with q | q
  ·exact q
  ·rw [Array.getElem?_eq_none q] at hj; cases hj
 have hk:Builtin.List.listFitsIndex k=true:=fitsIndex_of h0 (Int.lt_of_lt_of_le (show k < 16777217 by omega) (by decide))
 show wpAny _ _ (Builtin.List.listSubscript? (.int k t)>>=_) _ _ s
 refine wpAny_bind (wpAny_listSubscript_int hk ?_)
 obtain ⟨j,rfl⟩:=Int.eq_ofNat_of_zero_le h0
 have hj':items[j]?=some v:=hj
 show wpAny _ _ ((seqItemAt x j>>=fun r=>pure (r.map (j,·)))>>=_) _ _ s
 refine wpAny_bind (wpAny_bind (wpAny_seqItemAt hx rfl (wpAny_pure ?_)))
 rw [hj']
 first
  | exact wpAny_bind (wpAny_pure (wpAny_pure hq))
  | exact wpAny_pure (wpAny_pure hq)
theorem run_getitem_slice {items:Array Value} {n:Nat} {oc:Value} {od':Option Addr} {sl:Addr} {vl vu:Value} {lo hi:Option Int} {Q:Fin→Shared→Prop} (hx:s.heap.get? x=some { cls:=oc,dict:=od',data:=.seq items n }) (hz:items.size≤sizeLine)
  (hs:s.heap.IsSliceOf sl vl vu .none) (pl:IsPart vl lo) (pu:IsPart vu hi) (hq:Q (.done (.ret (.ref s.heap.objs.size))) { s with heap:=s.heap.push { cls:=.type "list",data:=.seq (slicePick items lo hi none) } }) :
  wpAny (model prog w) A (Builtin.«list.__getitem__» ⟨[.ref x,.ref sl],[]⟩) Q E s:=by
 obtain ⟨os,hos,hcs,hds⟩:=id hs
 have hTs:s.TypeIs (.ref sl) "slice":=⟨os,hos,hcs⟩
 show wpAny _ _ (Builtin.List.listSubscript? (.ref sl)>>=_) _ _ s
 refine wpAny_bind ?_
 unfold Builtin.List.listSubscript?
 refine wpAny_bind (wpAny_specialOf hTs slice_no_index ?_)
 simp only [Option.isNone_none,if_true]
 refine wpAny_pure ?_
 show wpAny _ _ (typeOf (.ref sl)>>=_) _ _ s
 refine wpAny_bind (wpAny_typeOf hTs ?_)
 rw [if_neg (by decide)]
 rw [listSliceParts_eq]
 refine wpAny_bind (wpAny_bind (wpAny_field hos hds (x:=.none) rfl (wpAny_bind (wpAny_listPart .none ?_))))
 rw [if_neg (by decide)]
 refine wpAny_bind (wpAny_field hos hds (x:=vl) rfl (wpAny_bind (wpAny_listPart pl ?_)))
 refine wpAny_bind (wpAny_field hos hds (x:=vu) rfl (wpAny_bind (wpAny_listPart pu (wpAny_pure ?_))))
 refine wpAny_bind (m:=Builtin.List.listItems (.ref x)) ?_
 unfold Builtin.List.listItems
 refine wpAny_bind (wpAny_seqItems hx rfl (wpAny_pure ?_))
 refine wpAny_bind (wpAny_of_eq (sliceIndices_raw lo hi none items.size (by simp)) ?_)
 exact wpAny_bind (wpAny_newObj_type (wpAny_pure hq) (Nat.le_trans (slicePick_size_le items lo hi none) hz))
theorem run_setitem_slice {items its:Array Value} {n nv:Nat} {oc:Value} {od':Option Addr} {sl v:Addr} {vl vu:Value} {lo hi:Option Int} {Q:Fin→Shared→Prop} (hx:s.heap.get? x=some { cls:=oc,dict:=od',data:=.seq items n }) (hf:({ cls:=oc,dict:=od',data:=.seq items n }:Obj).isFreed=false)
  (hz:items.size + its.size≤1000000) (hxv:x≠v)
  (hs:s.heap.IsSliceOf sl vl vu .none) (pl:IsPart vl lo) (pu:IsPart vu hi) (hv:s.heap.get? v=some (lstObj its nv))
  (hq:∀ h' m,Heap.SameBut x s.heap h'→h'.get? x=some { cls:=oc,dict:=od',data:=.seq (items.extract 0 (lo.elim 0 (clipAt items.size))++its++items.extract (max (lo.elim 0 (clipAt items.size)) (hi.elim items.size (clipAt items.size))) items.size) m }→Q (.done (.ret .none)) { s with heap:=h' }) :
  wpAny (model prog w) A (Builtin.«list.__setitem__» ⟨[.ref x,.ref sl,.ref v],[]⟩) Q E s:=by
 obtain ⟨os,hos,hcs,hds⟩:=id hs
 have hTs:s.TypeIs (.ref sl) "slice":=⟨os,hos,hcs⟩
 have hTv:s.TypeIs (.ref v) "list":=⟨_,hv,rfl⟩
 show wpAny _ _ (Builtin.List.listSubscript? (.ref sl)>>=_) _ _ s
 refine wpAny_bind ?_
 unfold Builtin.List.listSubscript?
 refine wpAny_bind (wpAny_specialOf hTs slice_no_index ?_)
 simp only [Option.isNone_none,if_true]
 refine wpAny_pure ?_
 show wpAny _ _ (typeOf (.ref sl)>>=_) _ _ s
 refine wpAny_bind (wpAny_typeOf hTs ?_)
 rw [if_neg (by decide)]
 rw [listSliceParts_eq]
 refine wpAny_bind (wpAny_bind (wpAny_field hos hds (x:=.none) rfl (wpAny_bind (wpAny_listPart .none ?_))))
 rw [if_neg (by decide)]
 refine wpAny_bind (wpAny_field hos hds (x:=vl) rfl (wpAny_bind (wpAny_listPart pl ?_)))
 refine wpAny_bind (wpAny_field hos hds (x:=vu) rfl (wpAny_bind (wpAny_listPart pu (wpAny_pure ?_))))
 dsimp only
 have hsame:Builtin.List.listSameRef (.ref x) (.ref v)=false:=by show (x == v)=false; simpa using hxv
 rw [hsame]
 unfold Builtin.List.listAllItems
 refine wpAny_bind ?_
 refine wpAny_bind (wpAny_typeOf hTv ?_)
 rw [if_pos (by decide)]
 unfold Builtin.List.listItems
 refine wpAny_bind (wpAny_seqItems hv rfl (wpAny_pure ?_))
 refine wpAny_bind ?_
 refine wpAny_bind (wpAny_seqItems hx rfl (wpAny_pure ?_))
 refine wpAny_bind (wpAny_of_eq (sliceIndices_raw lo hi none items.size (by simp)) ?_)
 rw [sliceBounds_plain]
 dsimp only
 rw [if_pos (by decide)]
 refine wpAny_bind (wpAny_rule ?_)
 have hlong:Builtin.List.listTooLong (items.size + its.size)=false:=decide_eq_false (by have:sizeLine=16777216:=rfl; omega)
 rw [hlong,if_neg (by decide)]
 generalize hlo:lo.elim 0 (clipAt items.size)=a at hq ⊢
 generalize hhi:hi.elim items.size (clipAt items.size)=b at hq ⊢
 have ea:(a:Int).toNat=a:=Int.toNat_natCast a
 have em:(max (a:Int) (b:Int)).toNat=max a b:=by omega
 rw [ea,em]
 have hlen:((items.extract 0 a++its++items.extract (max a b) items.size)).size≤3000000:=by simp only [Array.size_append,Array.size_extract]; omega
 refine wpAny_bind (m:=updateSeq x fun xs=>xs.extract 0 a++its++xs.extract (max a b) xs.size) ?_
 refine wpAny_updateSeq hx rfl ?_ (by have:sizeLine=16777216:=rfl; omega) (by have:sizeLine=16777216:=rfl; omega)
 refine wpAny_bind (wpAny_letGo (wpAny_pure ?_))
 have hg:=Heap.get?_update_self (Obj.mapSeq fun xs=>xs.extract 0 a++its++xs.extract (max a b) xs.size) hx (by simpa [Obj.mapSeq,Obj.isFreed] using hf)
 have hm:∃ m,Obj.mapSeq (fun xs=>xs.extract 0 a++its++xs.extract (max a b) xs.size) ({ cls:=oc,dict:=od',data:=.seq items n }:Obj)={ cls:=oc,dict:=od',data:=.seq (items.extract 0 a++its++items.extract (max a b) items.size) m }:=⟨_,rfl⟩
 obtain ⟨m,hm⟩:=hm
 exact hq _ m (.update ..) (hg.trans (congrArg some hm))
end
end Mine
end SM23
section SM24
open PySem PySem.Calls PyProof.Rows PySem.W PySem.Builtin PySem.Builtin.ObjectAttr
namespace Mine
section
variable {prog:Program} {w:World} {A:Around} {R:Result→Shared→Prop} {I:Addr} {fp wr:List Addr} {G:Array GenState→Array GenState→Prop} {n:Nat} {P:Nat→Value→Prop} {St:Nat→Shared→Prop}
theorem sum_loop_base (W:WalksS prog w A.in1 I fp wr G n P St) (base:Int) (val:Nat→Int) (hval:∀ i v,P i v→∃ t,v=.int (val i) t) (hfit:∀ j,j < n→InLong (val j)∧InLong (base + preSum val (j + 1))) (S:Addr) (hSf:S∉fp) :
  ∀ (k i:Nat) (s:Shared) (tA:Tok) (c:Nat),n - i=k→i≤n→St i s→s.heap.get? S=some { cls:=.type "list",dict:=none,data:=.seq #[.int (base + preSum val i) tA] c,slots:=#[] } →
  (∀ s' t',Moved (S :: wr) G s s'→R (.ok (.ret (.int (base + preSum val n) t'))) s')→codeAny (model prog w) A (.builtin "sum.loop" ⟨[.ref I,.ref S,rawInt 0,rawInt 0],[]⟩) R s:=by
 have hSw:S∉wr:=fun h=>hSf (W.sub _ h)
 have hsub:∀ b∈wr,b∈S :: wr:=fun b hb=>List.mem_cons_of_mem _ hb
 intro k
 induction k with
 | zero =>
  intro i s tA c hk hi hst hS hR
  obtain rfl:i=n:=by omega
  refine codeAny_builtin PySem.F.entry_sum_loop ?_
  rw [Around.under_plainId PySem.F.plain_sum_loop _]
  show wpAny _ A.in1 (seqItems? (.ref S)>>=_) _ _ s
  refine wpAny_bind (wpAny_seqItems hS rfl ?_)
  show wpAny _ A.in1 (tryCatch (pyNext (.ref I)) _>>=_) _ _ s
  refine wpAny_bind (wpAny_tryCatch (W.done s _ _ hst fun s' hm=>?_))
  exact wpAny_pure (hR s' tA (hm.mono hsub))
 | succ k ih =>
  intro i s tA c hk hi hst hS hR
  have hlt:i < n:=by omega
  refine codeAny_builtin PySem.F.entry_sum_loop ?_
  rw [Around.under_plainId PySem.F.plain_sum_loop _]
  show wpAny _ A.in1 (seqItems? (.ref S)>>=_) _ _ s
  refine wpAny_bind (wpAny_seqItems hS rfl ?_)
  show wpAny _ A.in1 (tryCatch (pyNext (.ref I)) _>>=_) _ _ s
  refine wpAny_bind (wpAny_tryCatch (W.item i s _ _ hlt hst fun v s' hP hst' hm=>?_))
  obtain ⟨t,rfl⟩:=hval i v hP
  have hS':=hm.heap S _ hSw hS
  have hf:=hfit i hlt
  have ep:base + preSum val (i + 1)=base + preSum val i + val i:=by show base + (preSum val i + val i)=_; omega
  rw [ep] at hf
  show wpAny _ A.in1 (if (_:Bool)=true then (mkInt (base + preSum val i + val i)>>=_) else _) _ _ _
  split
  ·refine wpAny_bind (wpAny_mkInt ?_)
   show wpAny _ A.in1 (updateSeq S (fun _=>#[.int (base + preSum val i + val i) s'.toks])>>=_) _ _ _
   refine wpAny_bind ?_
   refine wpAny_updateSeq hS' rfl (wpAny_pure ⟨plainId_quiet PySem.F.plain_sum_loop _,ih (i + 1) _ s'.toks _ (by omega) hlt (W.frame _ s' _ _ hst' (by first | exact Nat.le_refl _ | exact Nat.le_succ _ | omega) fun b hb o e=>?_) (by rw [ep]; exact Heap.get?_update_self _ hS' rfl) fun s'' t'' hm''=>?_⟩)
   ·exact (Heap.get?_update_other _ _ (fun h:S=b=>hSf (by rw [h]; exact hb))).trans e
   ·refine hR s'' t'' (Moved.trans W.gtrans ((hm.mono hsub).then_heap (by first | exact Nat.le_refl _ | exact Nat.le_succ _ | omega) fun b o hb e=>?_) hm'')
    exact (Heap.get?_update_other _ _ (fun h:S=b=>hb (by rw [h]; exact List.mem_cons_self))).trans e
  ·rename_i hno
   exfalso
   apply hno
   obtain ⟨⟨a1,a2⟩,b1,b2⟩:=hf
   have h63:(2:Int) ^ 63=9223372036854775808:=by decide
   rw [h63] at a1 a2 b1 b2
   have f:∀ x:Int,-9223372036854775808≤x→x < 9223372036854775808→(decide (-(2 ^ 63)≤x) && decide (x < 2 ^ 63))=true:=fun x h1 h2=>by
    rw [h63]
    simp only [Bool.and_eq_true,decide_eq_true_eq]
    omega
   show ((decide (-(2 ^ 63)≤val i) && decide (val i < 2 ^ 63)) && (decide (-(2 ^ 63)≤base + preSum val i + val i) && decide (base + preSum val i + val i < 2 ^ 63)))=true
   rw [f _ a1 a2,f _ b1 b2]; rfl
theorem args_sum2 (a b:Value):argsOk "sum" ⟨[a,b],[]⟩:=by unfold argsOk; kernel_rfl
end
section
variable {prog:Program} {w:World} {A:Around} {E:Value→Shared→Prop} {s:Shared}
theorem call_sum_base {x:Value} {base:Int} {tb:Tok} {Q:Value→Shared→Prop} (hb:InLong base)
  (h:wpAny (model prog w) A.in1 (pyIter x) (fun it s₂=>∃ I fp wr G n P St val,it=.ref I∧WalksS prog w A.in1 I fp wr G n P St∧St 0 s₂∧(∀ b∈fp,b < s₂.heap.objs.size) ∧
   (∀ i v,P i v→∃ t,v=.int (val i) t)∧(∀ j,j < n→InLong (val j)∧InLong (base + preSum val (j + 1))) ∧
   ∀ s' t',Moved wr G s₂ s'→Q (.int (base + preSum val n) t') s') E s) :
  wpAny (model prog w) A (call (.builtin "sum") [x,.int base tb]) Q E s:=by
 refine call_function_tree PySem.F.kind_sum PySem.F.plain_sum PySem.F.entry_sum (args_sum2 _ _) ?_
 unfold Builtin.«sum»
 simp only [List.length_cons,List.length_nil]
 rw [if_neg (by decide)]
 refine wpAny_bind (wpAny_of_eq (show Builtin.Builtins.bindParams "sum" ["start"] 0 ⟨[.int base tb],[]⟩=pure [some (.int base tb)] from rfl) ?_)
 refine wpAny_bind (wpAny_mono h (fun it s₂ h₂=>?_) fun _ _ e=>e)
 obtain ⟨I,fp,wr,G,n,P,St,val,rfl,W,hst,hfp,hval,hfit,hQ⟩:=h₂
 have hfl:(decide (-(2 ^ 63)≤base) && decide (base < 2 ^ 63))=true:=by
  have h63:(2:Int) ^ 63=9223372036854775808:=by decide
  obtain ⟨a1,a2⟩:=hb
  rw [h63] at a1 a2 ⊢
  simp only [Bool.and_eq_true,decide_eq_true_eq]; omega
 dsimp only
 split
 case isFalse hno=>exact absurd hfl hno
 refine wpAny_bind (wpAny_rule (wpAny_bind (wpAny_mkInt (wpAny_bind (wpAny_pure ?_)))))
 dsimp only
 simp only [List.forIn_cons,List.forIn_nil]
 refine wpAny_bind (wpAny_bind (wpAny_bind (wpAny_isInstance (T:="int") (b:=false) (typeIs_int _ _ _) PySem.sub_int_str ?_)))
 simp only [Bool.false_eq_true,if_false]
 refine wpAny_pure (wpAny_bind (wpAny_bind (wpAny_isInstance (T:="int") (b:=false) (typeIs_int _ _ _) PySem.sub_int_bytes ?_)))
 simp only [Bool.false_eq_true,if_false]
 refine wpAny_pure (wpAny_bind (wpAny_bind (wpAny_isInstance (T:="int") (b:=false) (typeIs_int _ _ _) PySem.sub_int_bytearray ?_)))
 simp only [Bool.false_eq_true,if_false]
 refine wpAny_pure (wpAny_pure ?_)
 refine wpAny_bind (wpAny_newObj_type ?_)
 have hSf:s₂.heap.objs.size∉fp:=fun hm=>Nat.lt_irrefl _ (hfp _ hm)
 refine wpAny_pure ⟨plainId_quiet PySem.F.plain_sum_loop _,sum_loop_base W base val hval hfit s₂.heap.objs.size hSf n 0 _ s₂.toks 0 rfl (Nat.zero_le _)
  (W.frame 0 s₂ _ _ hst (by first | exact Nat.le_refl _ | exact Nat.le_succ _ | omega) fun b _ o e=>Heap.get?_push_of_some _ e) (by rw [show base + preSum val 0=base from Int.add_zero base]; exact Heap.get?_push_size _ rfl) fun s' t' hm=>?_⟩
 exact hQ s' t' (hm.drop_new (by first | exact Nat.le_refl _ | exact Nat.le_succ _ | omega))
end
end Mine
end SM24
section SM25
open PySem PySem.Calls PyProof.Rows PySem.W PySem.Builtin PySem.Builtin.ObjectAttr
namespace Mine
structure CodeTab (g:Gl) (c P:Addr):Prop where
 hd:CodeHd g.h₁ c P
 tab:∃ ps,g.h₁.get? P=some (tabO ps)∧TriplesOk ps.toList
 ne:P≠cStatics
theorem OldT.grow {h₀ h h':Heap} (K:OldT h₀ h) {c P:Addr} {ps₀ ps more:Array Value} (t₀:h₀.TableAt c P ps₀) (t:h.TableAt c P ps) (t':h'.TableAt c P (ps++more)) (hx:Heap.ExtBut P h h') (hP:P≠cStatics) (ht:TriplesOk (ps++more).toList):OldT h₀ h' :=
 ⟨K.k.step_table t₀ t t' hx hP,fun Q ps₁ e tt=>by
  by_cases hq:Q=P
  ·subst hq; exact ⟨_,t'.2,ht⟩
  ·obtain ⟨ps₂,e',t₂⟩:=K.tab Q ps₁ e tt
   exact ⟨ps₂,hx _ _ hq e',t₂⟩⟩
section
variable {g:Gl} {A:Around} {F:Fm} {σ:AS} {s:Shared}
theorem CodeTab.now {c P:Addr} (T:CodeTab g c P) (S:Sat g F σ s):∃ ps,s.heap.IsCode c P ps∧s.heap.TableAt c P ps∧TriplesOk ps.toList:=by
 obtain ⟨ps₀,e₀,t₀⟩:=T.tab
 obtain ⟨ps,e,t⟩:=S.old.tab P ps₀ e₀ t₀
 obtain ⟨o,vs,file,tf,flags,tg,inF,text,tt,e1,e2,r⟩:=T.hd
 have hd:CodeHd s.heap c P:=⟨o,vs,file,tf,flags,tg,inF,text,tt,S.old.get_of_cls e1 (by rw [e2]; simp),e2,r⟩
 exact ⟨ps,hd.code e t,hd.tab e,t⟩
theorem Sat.grow {c P:Addr} {ps more:Array Value} {h':Heap} (T:CodeTab g c P) (S:Sat g F σ s) (t:s.heap.TableAt c P ps) (t':h'.TableAt c P (ps++more)) (hx:Heap.ExtBut P s.heap h') (ht:TriplesOk (ps++more).toList) (tk:Nat) :
  Sat g F σ { s with heap:=h',toks:=tk }∧Stp [] σ.own s σ.own { s with heap:=h',toks:=tk }:=by
 obtain ⟨ps₀,e₀,t₀⟩:=T.tab
 have hlt:P < g.h₁.objs.size:=Heap.lt_size e₀
 have hnfr:P∉F.fr:=fun q=>Nat.lt_irrefl _ (Nat.lt_of_lt_of_le hlt (S.lo _ (List.mem_append_left _ q)))
 have hno:P∉σ.own:=fun q=>Nat.lt_irrefl _ (Nat.lt_of_lt_of_le hlt (S.lo _ (List.mem_append_right _ q)))
 have hP:∀ o,s.heap.get? P=some o→o=tabO ps:=fun o e=>Option.some.inj (e.symm.trans t.2)
 have kk:∀ b o,s.heap.get? b=some o→(hard o∨b≠P)→h'.get? b=some o:=fun b o e h=>by
  refine hx b o (fun q=>?_) e
  subst q
  rcases h with h | h
  ·rw [hP o e] at h
   rcases h with h | h
   ·exact h rfl
   ·exact h _ rfl
  ·exact h rfl
 have kp:Kp s.heap h' σ.own σ.own:=fun b o xs n e d no=>⟨kk b o e (.inl (.inr fun vs q=>by rw [d] at q; cases q)),no⟩
 refine ⟨⟨S.old.grow (T.hd.tab e₀) t t' hx T.ne ht,?_,S.os,S.bare,S.nd,S.lo,fun z hz=>(S.zs z hz).mono kp fun b hb o e=>kk b o e (.inr fun q=>hno (q ▸ List.mem_flatMap.mpr ⟨z,hz,hb⟩)),fun a ha=>?_,?_,S.nin,fun x p e=>?_,S.cs,S.cl.to fun b o e hc=>kk b o e (.inl (frameLike.hard (.inr hc)))⟩,
  ⟨fun b o e _ _ hc=>kk b o e (.inl hc),fun b o e=>?_,fun a ha=>.inl ha,fun _ _ e=>e⟩⟩
 ·obtain ⟨mc,⟨o,es,ep,e,d,r⟩,h2⟩:=S.lim
  exact ⟨mc,⟨o,es,ep,kk _ _ e (.inl (frameLike.hard (.inl ⟨es,ep,d⟩))),d,r⟩,h2⟩
 ·obtain ⟨o,e,fl⟩:=S.fr a ha
  exact ⟨o,kk a o e (.inl fl.hard),fl⟩
 ·obtain ⟨m,o,es,ep,e,d,r⟩:=S.ns
  exact ⟨m,o,es,ep,kk _ _ e (.inl (frameLike.hard (.inl ⟨es,ep,d⟩))),d,r⟩
 ·obtain ⟨v,h1,h2⟩:=S.loc x p e
  exact ⟨v,h1.ext fun b o e fl=>kk b o e (.inl fl.hard),h2.mono kp⟩
 ·by_cases q:b=P
  ·subst q; exact ⟨_,t'.2⟩
  ·exact ⟨o,hx b o q e⟩
theorem genexprCode_sat {c P:Addr} {env:Env} {pos:Pos} {qn:Str} {scope:Scope} {Q:Value→Shared→Prop} {E:Value→Shared→Prop} (T:CodeTab g c P) (S:Sat g F σ s) (hc:env.code=.ref c)
  (k:∀ code s',Sat g F σ s'→Stp [] σ.own s σ.own s'→Heap.ExtBut P s.heap s'.heap→s'.gens=s.gens→Q code s'):wpAny (model g.prog g.w) A (genexprCode env pos qn scope) Q E s:=by
 obtain ⟨ps,h1,h2,h3⟩:=T.now S
 cases hn:codeAmong pos ps.toList with
 | some cv=>exact wpAny_genexprCode_hit hc h1 hn (k cv s S .refl (fun _ _ _ e=>e) rfl)
 | none =>
  refine wpAny_genexprCodeX hc h1 h2 hn fun c' h' tk hx _ _ hcode _ htab _=>?_
  obtain ⟨S',st⟩:=S.grow T h2 htab hx (by simpa using TriplesOk_snoc _ _ _ _ h3) tk
  exact k _ _ S' st hx rfl
theorem functionCode_sat {c P:Addr} {env:Env} {pos:Pos} {fl:Nat} {nm qn:Str} {p:Arguments} {body:FuncBody} {scope:Scope} {Q:Value→Shared→Prop} {E:Value→Shared→Prop} (T:CodeTab g c P) (S:Sat g F σ s) (hc:env.code=.ref c)
  (k:∀ code s',Sat g F σ s'→Stp [] σ.own s σ.own s'→Heap.ExtBut P s.heap s'.heap→s'.gens=s.gens→Q code s'):wpAny (model g.prog g.w) A (functionCode env pos fl nm qn p scope body) Q E s:=by
 obtain ⟨ps,h1,h2,h3⟩:=T.now S
 cases hn:codeAmong pos ps.toList with
 | some cv=>exact wpAny_functionCode_hit hc h1 hn (k cv s S .refl (fun _ _ _ e=>e) rfl)
 | none =>
  refine wpAny_functionCodeX hc h1 h2 hn fun c' h' tk hx _ _ hcode _ htab _=>?_
  obtain ⟨S',st⟩:=S.grow T h2 htab hx (by simpa using TriplesOk_snoc _ _ _ _ h3) tk
  exact k _ _ S' st hx rfl
end
def SeqAt (h:Heap) (l:Addr) (items:Array Value):Prop:=∃ o n,h.get? l=some o∧o.data=.seq items n
theorem SeqAt.keep {h h':Heap} {l:Addr} {items:Array Value} (x:SeqAt h l items) (hk:∀ o,h.get? l=some o→h'.get? l=some o):SeqAt h' l items:=let ⟨o,n,e,d⟩:=x; ⟨o,n,hk o e,d⟩
section
variable {prog:Program} {w:World} {A:Around} {E:Value→Shared→Prop} {s:Shared}
theorem next_seq_item {it l:Addr} {i:Nat} {items:Array Value} {x:Value} {Q:Option Value→Shared→Prop} (hit:s.heap.IsListIter it l i) (hl:SeqAt s.heap l items) (hx:items[i]?=some x)
  (hQ:∀ h',h'.IsListIter it l (i + 1)→Heap.SameBut it s.heap h'→Q (some x) { s with heap:=h' }):wpAny (model prog w) A (pyNext (.ref it)) Q E s:=by
 obtain ⟨o,ho,hc,hd⟩:=id hit
 obtain ⟨ol,nl,hol,hdl⟩:=hl
 unfold pyNext
 refine wpAny_bind (wpAny_attempt (wpAny_callSpecial?_slot (name:=Str.ofString "__next__") hit.typeIs slot_listiter_next (wpAny_call_entry slot_listiter_next hit.typeIs entry_listiter_next ?_ (args_listiter_next _))))
 show wpAny _ _ (field (.ref it) 0>>=_) _ _ s
 refine wpAny_bind (wpAny_field ho hd (x:=.ref l) rfl ?_)
 show wpAny _ _ (if (Value.ref l == Value.none)=true then _ else _) _ _ s
 rw [if_neg (show ¬ ((Value.ref l == Value.none)=true) from Bool.false_ne_true)]
 show wpAny _ _ (field (.ref it) 1>>=_) _ _ s
 refine wpAny_bind (wpAny_field ho hd (x:=.int i 0) rfl ?_)
 show wpAny _ _ (seqItems? (.ref l)>>=_) _ _ s
 refine wpAny_bind (wpAny_seqItems hol hdl ?_)
 simp only [Int.toNat_natCast,hx]
 refine wpAny_bind (wpAny_setField ho hd (by simp) (wpAny_pure ⟨x,rfl,wpAny_pure (hQ _ ?_ (Heap.SameBut.update ..))⟩))
 exact ⟨_,Heap.get?_update_self _ ho (Obj.isFreed_of_fields (Obj.data_mapFields hd _)),(Obj.cls_mapFields ..).trans hc,by rw [Obj.data_mapFields hd]; simp [rawInt]⟩
theorem next_seq_end {it l:Addr} {i:Nat} {items:Array Value} {Q:Option Value→Shared→Prop} (hh:A.handled=none) (hit:s.heap.IsListIter it l i) (hl:SeqAt s.heap l items) (hx:items[i]?=none)
  (hQ:∀ h',Heap.ExtBut it s.heap h'→Q none { s with heap:=h' }):wpAny (model prog w) A (pyNext (.ref it)) Q E s:=by
 obtain ⟨o,ho,hc,hd⟩:=id hit
 obtain ⟨ol,nl,hol,hdl⟩:=hl
 unfold pyNext
 refine wpAny_bind (wpAny_attempt (wpAny_callSpecial?_slot (name:=Str.ofString "__next__") hit.typeIs slot_listiter_next (wpAny_call_entry slot_listiter_next hit.typeIs entry_listiter_next ?_ (args_listiter_next _))))
 show wpAny _ _ (field (.ref it) 0>>=_) _ _ s
 refine wpAny_bind (wpAny_field ho hd (x:=.ref l) rfl ?_)
 show wpAny _ _ (if (Value.ref l == Value.none)=true then _ else _) _ _ s
 rw [if_neg (show ¬ ((Value.ref l == Value.none)=true) from Bool.false_ne_true)]
 show wpAny _ _ (field (.ref it) 1>>=_) _ _ s
 refine wpAny_bind (wpAny_field ho hd (x:=.int i 0) rfl ?_)
 show wpAny _ _ (seqItems? (.ref l)>>=_) _ _ s
 refine wpAny_bind (wpAny_seqItems hol hdl ?_)
 simp only [Int.toNat_natCast,hx]
 refine wpAny_bind (wpAny_rule (wpAny_bind (wpAny_setField ho hd (by simp) ?_)))
 show wpAny _ _ (newExc (.type "StopIteration") []>>=_) _ _ _
 refine wpAny_bind ?_
 simp only [newExc,newTuple]
 refine wpAny_bind (wpAny_newObj_type ?_ (by size_fits))
 refine wpAny_bind (m:=firstArgMember _ _) (wpAny_of_eq (a:=Value.none) (by first | rfl | (simp only [firstArgMember]; rfl)) ?_)
 refine wpAny_newObj_type ?_ (by size_fits)
 simp only [raiseNew]
 refine wpAny_bind (wpAny_handled ?_)
 rw [show A.in1.handled=none from hh]
 refine wpAny_bind (wpAny_pure (wpAny_throw ?_))
 refine wpAny_bind (wpAny_isInstance (T:="StopIteration") (b:=true) ⟨_,Heap.get?_push_size _ rfl,rfl⟩ isSubtype_stop ?_)
 exact wpAny_pure (hQ _ (((Heap.SameBut.update ..).extBut.push _).push _))
theorem walkTuples {prog:Program} {w:World} {A:Around} (hh:A.handled=none) (I ax:Addr) (hne:ax≠I) (items:Array Value) (Ts:Nat→Addr) (vals:Nat→Array Value)
  (hit:∀ j,j < items.size→items[j]?=some (.ref (Ts j))) (hTI:∀ j,j < items.size→Ts j≠I) :
  WalksU prog w A I (I :: ax :: (List.range items.size).map Ts) [I] items.size (fun j v=>j < items.size∧v=vals j)
   (fun j h=>h.IsListIter I ax j∧SeqAt h ax items∧∀ k,k < items.size→h.IsTuple (Ts k) (vals k))
   (fun j T h=>(j < items.size∧T=Ts j)∧h.IsListIter I ax (j + 1)∧SeqAt h ax items∧∀ k,k < items.size→h.IsTuple (Ts k) (vals k)) where
 sub:=fun b hb=>by simp at hb; simp [hb]
 frame:=fun _ _ _ st hk=>⟨st.1.at fun o e=>hk I (by simp) o e,st.2.1.keep fun o e=>hk ax (by simp) o e,
  fun k hk'=>(st.2.2 k hk').at fun o e=>hk (Ts k) (List.mem_cons_of_mem _ (List.mem_cons_of_mem _ (List.mem_map.mpr ⟨k,List.mem_range.mpr hk',rfl⟩))) o e⟩
 item:=fun i s Q E hi st hQ=>by
  refine next_seq_item st.1 st.2.1 (x:=.ref (Ts i)) (hit i hi) fun h' hit' hs'=>?_
  have tup:∀ k,k < items.size→h'.IsTuple (Ts k) (vals k):=fun k hk'=>(st.2.2 k hk').extBut hs'.extBut (hTI k hk')
  exact hQ (Ts i) (vals i) h' s.toks ⟨hi,rfl⟩ (tup i hi) ⟨⟨hi,rfl⟩,hit',st.2.1.keep fun o e=>hs'.extBut _ _ hne e,tup⟩ fun b o hb e=>hs'.extBut b o (fun h=>hb (by simp [h])) e
 go:=fun _ _ _ _ _ s Q _ hm hQ=>wpAny_letOwnedTupleGo_listiter hm.2.1 (hQ s.heap hm.2 fun _ _ _ e=>e)
 apart:=fun j T _ hm hmem=>by
  rcases List.mem_cons.mp hmem with e | e
  ·exact hTI j hm.1.1 (hm.1.2 ▸ e)
  ·cases e
 done:=fun s Q E st hQ=>next_seq_end hh st.1 st.2.1 (by simp) fun h' he'=>hQ h' s.toks fun b o hb e=>he' b o (fun h=>hb (by simp [h])) e
 self:=fun _ _ _ _ st hQ=>wpAny_pyIter_listiter st.1 hQ
end
end Mine
end SM25
section SM26
open PySem PySem.Calls PyProof.Rows PySem.W PySem.Builtin PySem.Builtin.ObjectAttr
namespace Mine
structure BmOk (g:Gl):Prop where
 ex:∃ mg o bm ob,g.h₁.Ns mainGlobals mg∧g.h₁.get? mainGlobals=some o∧o.cls≠.none∧mg "__builtins__" = some (.ref bm)∧bm≠builtinsNs∧g.h₁.get? bm=some ob∧ob.cls=.type "module"∧ob.dict=some builtinsNs∧ob.data=.plain
section
variable {g:Gl} {A:Around} {F:Fm} {σ:AS} {s:Shared} {K:Frag}
theorem Sat.offs (S:Sat g F σ s) {T:List Addr} {s':Shared} (hT:∀ a∈T,g.h₁.objs.size≤a∧a∉F.fr∧a∉σ.own∧∀ o,s.heap.get? a=some o→(∀ xs n,o.data≠.seq xs n)∧∀ v,o.data≠.cell v)
  (hk:∀ b o,b∉T→s.heap.get? b=some o→s'.heap.get? b=some o) (ho:s'.os=s.os) (hb:AllBare s'.gens):Sat g F σ s':=by
 have kp:Kp s.heap s'.heap σ.own σ.own:=fun b o xs n e d no=>⟨hk b o (fun q=>((hT b q).2.2.2 o e).1 xs n d) e,no⟩
 refine ⟨OldT.exts S.old (fun a ha=>(hT a ha).1) hk,?_,ho.trans S.os,hb,S.nd,S.lo,fun z hz=>(S.zs z hz).mono kp fun b hb o e=>hk b o (fun q=>(hT b q).2.2.1 (List.mem_flatMap.mpr ⟨z,hz,hb⟩)) e,fun a ha=>?_,?_,S.nin,fun x p e=>?_,S.cs,S.cl.to fun b o e hc=>?_⟩
 ·obtain ⟨mc,⟨o,es,ep,e,d,r⟩,h2⟩:=S.lim
  exact ⟨mc,⟨o,es,ep,hk _ _ (fun q=>Nat.lt_irrefl _ (Nat.lt_of_lt_of_le S.cs (hT _ q).1)) e,d,r⟩,h2⟩
 ·obtain ⟨o,e,fl⟩:=S.fr a ha
  exact ⟨o,hk a o (fun q=>(hT a q).2.1 ha) e,fl⟩
 ·obtain ⟨m,o,es,ep,e,d,r⟩:=S.ns
  exact ⟨m,o,es,ep,hk _ _ (fun q=>(hT _ q).2.1 S.nin) e,d,r⟩
 ·obtain ⟨v,h1,h2⟩:=S.loc x p e
  refine ⟨v,?_,h2.mono kp⟩
  rcases h1 with ⟨a,mm,⟨o',es',ep',e',r⟩,c⟩ | ⟨a,c,o',h3,h4,h5⟩
  ·exact .inl ⟨a,mm,⟨o',es',ep',hk _ _ (fun q=>(hT _ q).2.1 S.nin) e',r⟩,c⟩
  ·exact .inr ⟨a,c,o',h3,hk _ _ (fun q=>((hT _ q).2.2.2 o' h4).2 _ h5) h4,h5⟩
 ·obtain ⟨v,d⟩:=hc
  exact hk b o (fun q=>((hT b q).2.2.2 o e).2 _ d) e
theorem bindIf_inst {prog:Program} {w:World} {A:Around} {E:Value→Shared→Prop} {s:Shared} {x C:Addr} {ox:Obj} {od:Option Obj} {name:Str} {f:Value} {Q:Option (Value × List Value)→Shared→Prop} (X:K.In s.heap) (I:InstAt s.heap x ox C od)
  (hf:findIn K (.ref C) name=some (some f)) (hb:Looks (model prog w) s.heap (bindSpecial f (.ref x)) (f,[.ref x])) (h:Q (some (f,[.ref x])) s):wpAny (model prog w) A (bindSpecialIfBound? (.ref x) name) Q E s:=by
 unfold bindSpecialIfBound? specialOf
 refine wpAny_bind (wpAny_bind (I.type.here ((looks_findIn X hf).here ?_)))
 dsimp only
 refine wpAny_bind (wpAny_askSetting (wpAny_ite ?_))
 split
 ·exact wpAny_bind (hb.here (wpAny_pure h))
 ·exact wpAny_tryCatch (wpAny_bind (hb.here (wpAny_pure h)))
theorem pyIter_inst {prog:Program} {w:World} {A:Around} {E:Value→Shared→Prop} {s:Shared} {x C:Addr} {ox:Obj} {od:Option Obj} {Q:Value→Shared→Prop} (ok:ClsLst K C) (X:K.In s.heap) (I:InstAt s.heap x ox C od)
  (hf:findIn K (.ref C) "__iter__" = some (some (.builtin "list.__iter__"))) (h:Q (.ref s.heap.objs.size) { s with heap:=s.heap.push { cls:=.type "list_iterator",data:=.fields #[.ref x,.int 0 0] } }):wpAny (model prog w) A (pyIter (.ref x)) Q E s:=by
 have L1:=looks_findIn (M:=model prog w) X hf
 unfold pyIter specialOf
 refine wpAny_bind (wpAny_bind (I.type.here (L1.here ?_)))
 show wpAny _ A (callSpecialIfBoundUnlessNone? (.ref x) "__iter__" _>>=_) Q E s
 refine wpAny_bind ?_
 unfold callSpecialIfBoundUnlessNone?
 refine wpAny_holding (wpAny_bind (bindIf_inst X I hf (Looks.of_pure (slot_list_iter.bind _)) ?_))
 dsimp only
 rw [if_neg (by decide)]
 refine wpAny_bind (wpAny_mono (Q:=fun v s'=>v=.ref s.heap.objs.size∧s'={ s with heap:=s.heap.push { cls:=.type "list_iterator",data:=.fields #[.ref x,.int 0 0] } }) (E:=fun _ _=>False) (call_inst id_iter ok X I (args_list_iter _) ?_) (fun v s' hv=>?_) fun _ _ z=>z.elim)
 ·show wpAny _ _ (do ret (← newFields "list_iterator" [.ref x,rawInt 0])) _ _ s
  exact wpAny_bind (wpAny_newObj_type (wpAny_pure ⟨_,rfl,rfl,rfl⟩))
 ·obtain ⟨rfl,rfl⟩:=hv
  refine wpAny_pure ?_
  show wpAny _ _ (specialOf (.ref s.heap.objs.size) "__next__">>=_) _ _ _
  refine wpAny_bind (wpAny_specialOf (T:="list_iterator") ⟨_,Heap.get?_push_size _ rfl,rfl⟩ slot_listiter_next.lookup ?_)
  exact wpAny_pure h
theorem gen_pairs {x dx C c P:Addr} {att:List (Str × PV)} {ls:List (List Nat × List Nat)} {self xa xb:Str} {ps pa pb pt gpos:Pos} {kt:Nat} {elt:Expr} {scope:Scope} {cl:List (Str × Addr)} {Fp:(List Nat × List Nat)→Value→Prop} {Q:Value→Shared→Prop} {E:Value→Shared→Prop}
  (hr:Rm A 0) (hK:Fg g K) (hC:ClsLst K C) (hit:findIn K (.ref C) "__iter__" = some (some (.builtin "list.__iter__"))) (hB:BmOk g) (T:CodeTab g c P) (hcode:F.env.code=.ref c) (hk:FnEnv F) (S:Sat g F σ s)
  (hz:(x,.inst dx C att (some (ls.map fun p=>.tup [tx p.1,tx p.2])))∈σ.zone) (hself:σ.loc.lookup self=some (.raw (.ref x)))
  (hclos:closureFor scope F.env=pure cl) (hco:scope.isCoroutine=false) (hcell:(scope.names.all fun y=>y.2 != .cell)=true) (h0:scope.names.lookup (".0":Str)=some NameKind.local)
  (hxa:scope.names.lookup xa=some .local) (hxb:scope.names.lookup xb=some .local) (hab:xa≠xb) (hkind:scope.kind=.function) (hfold:∀ y,genFold (.Name self ps) F.env y=pure y)
  (hd:(self == ("__debug__":Str))=false) (hd2:(self == Str.ofString "__classdict__")=false)
  (helt:∀ (L:Addr) (code:Value) (A':Around) E' (p:List Nat × List Nat) ta tb (u:Shared) m₂,A'.handled=none→p∈ls→OldT g.h₁ u.heap→u.heap.Ns L m₂→m₂ xa=some (.str (ofL p.1) ta)→m₂ xb=some (.str (ofL p.2) tb) →
   wpAny (model g.prog g.w) A' (eval elt (genEnv scope cl L code builtinsNs F.env)) (fun y u'=>Fp p y∧Keeps u u') E' u)
  (k:∀ a s₅ fp wr G St,Sat g F σ s₅→WalksS g.prog g.w A.in4 a fp wr G ls.length (fun j y=>∃ p,ls[j]?=some p∧Fp p y) St→St 0 s₅→(∀ i s',St i s'→s'.TypeIs (.ref a) "generator")→a∈fp→(∀ b∈fp,b < s₅.heap.objs.size) →
   (∀ s',Moved wr G s₅ s'→Sat g F σ s'∧Stp [] σ.own s σ.own s')→Q (.ref a) s₅) :
  wpAny (model g.prog g.w) A (eval (.GeneratorExp elt [⟨.Tuple [.Name xa pa,.Name xb pb] kt pt,.Name self ps,[],0⟩] scope gpos) F.env) Q E s:=by
 have hcell':∀ y∈scope.names,y.2≠.cell:=fun y hy=>by simpa using List.all_eq_true.mp hcell y hy
 refine wpAny_GeneratorExp_walksQT hr.handled hco hclos hcell' h0 hxa hxb hab hkind hr.depth ?_ hfold
 have ev:EV g A F (.Name self ps) σ fun p σ'=>p=.raw (.ref x)∧σ'=σ:=EV_local hk hself ⟨rfl,rfl⟩ hd hd2
 obtain ⟨v₀,hn₀,hv₀⟩:=S.loc self _ hself
 cases hv₀
 have lname:∀ (Q':Value→Shared→Prop),Q' (.ref x) s→wpAny (model g.prog g.w) A (eval (.Name self ps) F.env) Q' E s:=by
  intro Q' hq
  rcases hn₀ with ⟨e,m,n,hm⟩ | ⟨e,cc,o,hcl,ho,hd'⟩
  ·exact wpAny_Name (wpAny_loadName_local hk.kind e n hm hq) hd
  ·rcases e with e | e
   ·exact wpAny_Name (wpAny_loadName_cell hk.kind e hcl ⟨o,ho,hd'⟩ hq) hd
   ·exact wpAny_Name (wpAny_loadName_free hk.kind e hcl ⟨o,ho,hd'⟩ hq hd2) hd
 refine lname _ ?_
 obtain ⟨d,es,n,I,⟨items,n',hd',hitems⟩,hatt⟩:=inst_at (S.zs _ hz)
 refine pyIter_inst hC (hK.now S) I hit ?_
 have S₂:=S.push { cls:=.type "list_iterator",data:=.fields #[.ref x,.int 0 0] }
 refine ⟨S₂.lim,?_⟩
 refine genexprCode_sat T S₂ hcode fun code s₃ S₃ st₃ hx₃ hg₃=>?_
 obtain ⟨mg,om,bm,ob,b1,b2,b3,b4,b5,b6,b7,b8,b9⟩:=hB.ex
 rw [hk.gl]
 refine wpAny_builtinsFor (Ns_old S₃.old b1 b2 b3) b4 b5 (S₃.old.get_of_cls b6 (by rw [b7]; simp)) b7 b8 b9 ?_
 obtain ⟨ps₀,hp₀,_⟩:=T.tab
 have hPlt:P < g.h₁.objs.size:=Heap.lt_size hp₀
 have hbase:=S.base_le
 have hlen:=hitems.length
 rw [List.length_map,Array.length_toList] at hlen
 have hj:∀ (j:Nat) (p:List Nat × List Nat),ls[j]?=some p→∃ (Tj:Addr) (ta tb:Tok) (m:Nat),items[j]?=some (Value.ref Tj)∧s.heap.get? Tj=some (tupObj #[.str (ofL p.1) ta,.str (ofL p.2) tb] m):=by
  intro j p hp
  obtain ⟨v,h1,h2⟩:=hitems.get (i:=j) (p:=.tup [tx p.1,tx p.2]) (by rw [List.getElem?_map,hp]; rfl)
  cases h2 with
  | tup ha ho hl =>
   rename_i a its m
   cases hl':its.toList with
   | nil=>rw [hl'] at hl; cases hl
   | cons u us =>
    rw [hl'] at hl
    cases hl with
    | cons h3 h4 =>
     cases us with
     | nil=>cases h4
     | cons w' ws =>
      cases h4 with
      | cons h5 h6 =>
       cases h6
       cases h3 with
       | str _ ta=>cases h5 with
        | str _ tb =>
         have:its = #[.str (ofL p.1) ta,.str (ofL p.2) tb]:=by apply Array.ext'; rw [hl']
         subst this
         exact ⟨a,ta,tb,m,by simpa using h1,ho⟩
 let Ts:Nat→Addr:=fun j=>match items[j]? with | some (.ref T)=>T | _=>0
 let vals:Nat→Array Value:=fun j=>match s.heap.get? (Ts j) with | some ⟨_,_,.seq xs _,_⟩=>xs | _=>#[]
 have hTv:∀ j,j < items.size→∃ (p:List Nat × List Nat) (ta tb:Tok) (m:Nat),ls[j]?=some p∧items[j]?=some (Value.ref (Ts j))∧vals j = #[.str (ofL p.1) ta,.str (ofL p.2) tb]∧s.heap.get? (Ts j)=some (tupObj (vals j) m):=by
  intro j hlt
  have hlt':j < ls.length:=by omega
  obtain ⟨Tj,ta,tb,m,h1,h2⟩:=hj j ls[j] (List.getElem?_eq_getElem hlt')
  have e1:Ts j=Tj:=by show (match items[j]? with | some (.ref T)=>T | _=>0)=Tj; rw [h1]
  have e2:vals j = #[.str (ofL ls[j].1) ta,.str (ofL ls[j].2) tb]:=by show (match s.heap.get? (Ts j) with | some ⟨_,_,.seq xs _,_⟩=>xs | _=>#[])=_; rw [e1,h2]
  exact ⟨ls[j],ta,tb,m,List.getElem?_eq_getElem hlt',by rw [e1]; exact h1,e2,by rw [e1,e2]; exact h2⟩
 have hx:=I.at_
 have hIx:x≠s.heap.objs.size:=Nat.ne_of_lt (Heap.lt_size hx)
 have keep2:∀ b o,s.heap.get? b=some o→(s.heap.push { cls:=.type "list_iterator",data:=.fields #[.ref x,.int 0 0] }).get? b=some o:=fun b o e=>Heap.get?_push_of_some _ e
 have hPne:∀ b o,s.heap.get? b=some o→(∀ vs,o.data≠.fields vs)→b≠P:=fun b o e hd q=>by
  subst q
  obtain ⟨ps₁,e₁,_⟩:=S.old.tab _ _ hp₀ ‹_›
  rw [e] at e₁; cases e₁
  exact hd _ rfl
 have keep3:∀ b o,s.heap.get? b=some o→b≠P→s₃.heap.get? b=some o:=fun b o e hb=>hx₃ b o hb (keep2 b o e)
 have hI₀:s₃.heap.get? s.heap.objs.size=some { cls:=.type "list_iterator",data:=.fields #[.ref x,.int 0 0] }:=hx₃ _ _ (Nat.ne_of_gt (Nat.lt_of_lt_of_le hPlt hbase)) (Heap.get?_push_size _ rfl)
 have hx3:=keep3 x _ hx (hPne x _ hx fun vs q=>by rw [hd'] at q; cases q)
 have hseq:SeqAt s₃.heap x items:=⟨_,n',hx3,hd'⟩
 have htup:∀ j,j < items.size→s₃.heap.IsTuple (Ts j) (vals j):=fun j hlt=>by
  obtain ⟨p,ta,tb,m,_,_,_,h4⟩:=hTv j hlt
  exact ⟨_,keep3 _ _ h4 (hPne _ _ h4 fun vs q=>by cases q),rfl,_,rfl⟩
 have hTlt:∀ j,j < items.size→Ts j < s.heap.objs.size:=fun j hlt=>by obtain ⟨_,_,_,_,_,_,_,h4⟩:=hTv j hlt; exact Heap.lt_size h4
 have W:=fun (A':Around) (hA:A'.handled=none)=>walkTuples (prog:=g.prog) (w:=g.w) hA s.heap.objs.size x hIx items Ts vals (fun j hlt=>let ⟨_,_,_,_,_,h2,_⟩:=hTv j hlt; h2) fun j hlt=>Nat.ne_of_lt (hTlt j hlt)
 have hsz3:s.heap.objs.size < s₃.heap.objs.size:=Heap.lt_size hI₀
 have hpass:∀ n₀,passing (fun _=>true) n₀ 0=List.range n₀:=fun n₀=>by unfold passing; simp
 refine ⟨s.heap.objs.size,_,[s.heap.objs.size],items.size,_,_,_,fun _=>true,fun i y=>∃ p,ls[i]?=some p∧Fp p y,rfl,W,?_,⟨⟨_,hI₀,rfl,rfl⟩,hseq,htup⟩,?_,S₃.lim,?_,?_,?_⟩
 ·rintro i v ⟨hlt,rfl⟩
  obtain ⟨p,ta,tb,m,_,_,h3,_⟩:=hTv i hlt
  exact ⟨_,_,h3⟩
 ·intro b hb
  rcases List.mem_cons.mp hb with rfl | hb
  ·exact hsz3
  ·rcases List.mem_cons.mp hb with rfl | hb
   ·exact Heap.lt_size hx3
   ·obtain ⟨j,hjm,rfl⟩:=List.mem_map.mp hb
    exact Nat.lt_trans (hTlt j (List.mem_range.mp hjm)) hsz3
 ·intro hm
  rw [List.mem_singleton] at hm
  exact Nat.lt_irrefl _ (Nat.lt_of_lt_of_le (Nat.lt_of_lt_of_le S.cs hbase) (Nat.le_of_eq hm.symm))
 ·intro href hhref
  have hold:∀ u:Shared,(∀ b∈List.range s₃.heap.objs.size,b∉[s.heap.objs.size]→∀ o,href.get? b=some o→u.heap.get? b=some o)→OldT g.h₁ u.heap:=fun u hu =>
   OldT.exts S₃.old (T:=[s.heap.objs.size]) (fun a ha=>by rw [List.mem_singleton] at ha; subst ha; exact hbase) fun b o hb e=>hu b (List.mem_range.mpr (Heap.lt_size e)) hb o (hhref b o e)
  constructor
  ·intro A' E' i va vb u m₂ hA hP hn ha hb hu
   exact wpAny_tests_nil ⟨rfl,u.heap,u.toks,rfl,fun _ _ e=>e⟩
  ·intro A' E' i va vb u m₂ hA hP hpz hn ha hb hu
   obtain ⟨hlt,hv⟩:=hP
   obtain ⟨p,ta,tb,m,h1,_,h3,_⟩:=hTv i hlt
   have hv':va=.str (ofL p.1) ta∧vb=.str (ofL p.2) tb:=by
    have:=congrArg Array.toList (hv.trans h3)
    simpa using this
   obtain ⟨rfl,rfl⟩:=hv'
   exact wpAny_mono (helt _ code A' E' p ta tb u m₂ hA (List.mem_of_getElem? h1) (hold u hu) hn ha hb) (fun y u' r=>⟨⟨p,h1,r.1⟩,r.2⟩) fun _ _ e=>e
 ·intro a h₅ tk gs hgb hag hsz₅ hk₅ WS hat
  rw [hpass] at WS
  have hPe:(fun (j:Nat) y=>∃ i,(List.range items.size)[j]?=some i∧∃ p,ls[i]?=some p∧Fp p y)=fun j y=>∃ p,ls[j]?=some p∧Fp p y:=by
   funext j y
   apply propext
   constructor
   ·rintro ⟨i,h1,h2⟩
    have:i=j:=by
     rw [List.getElem?_range] at h1
     ·exact (Option.some.inj h1).symm
     ·rcases Nat.lt_or_ge j items.size with q | q
      ·exact q
      ·rw [List.getElem?_eq_none (by simpa using q)] at h1; cases h1
    subst this; exact h2
   ·rintro ⟨p,h1,h2⟩
    have hlt:j < items.size:=by
     rcases Nat.lt_or_ge j ls.length with q | q
     ·omega
     ·rw [List.getElem?_eq_none q] at h1; cases h1
    exact ⟨j,by rw [List.getElem?_range hlt],p,h1,h2⟩
  rw [hPe,List.length_range,hlen] at WS
  rw [hlen] at hat
  have hgs3:s₃.gens=s.gens:=hg₃
  have back:∀ s':Shared,Moved (s₃.heap.objs.size :: [s.heap.objs.size]) (GenOnlyQ s₃.gens.size) { s₃ with gens:=s₃.gens.push gs,toks:=tk,heap:=h₅ } s'→Sat g F σ s'∧Stp [] σ.own s σ.own s':=by
   intro s' hm
   have hkb:∀ b o,b∉[s.heap.objs.size]→s₃.heap.get? b=some o→s'.heap.get? b=some o:=fun b o hb e=>hm.heap b o (fun q=>by
    rcases List.mem_cons.mp q with rfl | q
    ·exact Nat.lt_irrefl _ (Heap.lt_size e)
    ·exact hb q) (hk₅ b o e)
   have hb5:AllBare (s₃.gens.push gs):=S₃.bare.push hgb
   have hbare:AllBare s'.gens:=GenOnlyQ.bare hm.gens hb5
   refine ⟨S₃.offs (T:=[s.heap.objs.size]) (fun a ha=>?_) hkb (hm.os.trans rfl) hbare,?_⟩
   ·rw [List.mem_singleton] at ha; subst ha
    refine ⟨hbase,fun q=>Nat.lt_irrefl _ (S.fr_lt q),fun q=>Nat.lt_irrefl _ (S.own_lt q),fun o e=>?_⟩
    rw [hI₀] at e; cases e
    exact ⟨fun xs n q=>(by cases q),fun v q=>(by cases q)⟩
   ·have ne:∀ b o,s.heap.get? b=some o→b∉[s.heap.objs.size]:=fun b o e q=>by
     rw [List.mem_singleton] at q; subst q
     rw [get?_size] at e; cases e
    have st:=(Stp.push (fr:=[]) (own:=σ.own) (s:=s) { cls:=.type "list_iterator",data:=.fields #[.ref x,.int 0 0] }).trans st₃
    refine ⟨fun b o e nf no hc=>hkb b o (ne b o e) (st.keep b o e nf no hc),fun b o e=>?_,fun a ha=>.inl ha,fun i y e=>?_⟩
    ·obtain ⟨o',e'⟩:=st.there b o e
     exact ⟨o',hkb b o' (ne b o e) e'⟩
    ·have hi:i < s.gens.size:=by
      rcases Nat.lt_or_ge i s.gens.size with q | q
      ·exact q
      ·rw [Array.getElem?_eq_none q] at e; cases e
     have e5:(s₃.gens.push gs)[i]?=some y:=by
      rw [hgs3,Array.getElem?_push_lt hi]
      rw [Array.getElem?_eq_getElem hi] at e
      exact e
     rcases hm.gens with q | ⟨q,_⟩
     ·rw [q]; exact e5
     ·rw [q.2 i (by rw [hgs3]; exact Nat.ne_of_lt hi)]; exact e5
  refine k a _ _ _ _ _ (back _ (Moved.refl WS.grefl)).1 WS hat (fun i s' st=>st.1.typeIs) List.mem_cons_self ?_ back
  intro b hb
  show b < h₅.objs.size
  rw [hsz₅]
  rcases List.mem_cons.mp hb with rfl | hb
  ·exact Nat.lt_succ_self _
  ·rcases List.mem_cons.mp hb with rfl | hb
   ·exact Nat.lt_succ_of_lt hag
   ·exact Nat.lt_succ_of_lt (Nat.lt_trans (List.mem_range.mp hb) hag)
end
end Mine
end SM26
section SM27
open PySem PySem.Calls PyProof.Rows PySem.W PySem.Builtin PySem.Builtin.ObjectAttr
namespace Mine
theorem one_arg {M:Model} {A:Around} {E:Value→Shared→Prop} {s:Shared} {f:Value} {pos:Pos} {env:Env} {e:Expr} {Q:Args→Shared→Prop} (h:wpAny M A (eval e env) (fun v s₁=>Q ⟨[v],[]⟩ s₁) E s)
  (he:starEach [e] env=(false,eval e env) :: starEach [] env:=by with_unfolding_all rfl):wpAny M A (evalArgs f true (backTo pos (starEach [e] env)) []) Q E s:=by
 have h1:wpAny M A (spliced (backTo pos (starEach [e] env))) (fun vs s'=>Q ⟨vs,[]⟩ s') E s:=args_cons (wpAny_mono h (fun v s₁ q=>spliced_nil q) fun _ _ z=>z) he
 rw [he] at h1 ⊢
 exact evalArgs_plain h1
theorem two_args {M:Model} {A:Around} {E:Value→Shared→Prop} {s:Shared} {f:Value} {pos:Pos} {env:Env} {e e':Expr} {Q:Args→Shared→Prop} (h:wpAny M A (eval e env) (fun v s₁=>wpAny M A (eval e' env) (fun v' s₂=>Q ⟨[v,v'],[]⟩ s₂) E s₁) E s)
  (he:starEach [e,e'] env=(false,eval e env) :: starEach [e'] env:=by with_unfolding_all rfl) (he':starEach [e'] env=(false,eval e' env) :: starEach [] env:=by with_unfolding_all rfl):wpAny M A (evalArgs f true (backTo pos (starEach [e,e'] env)) []) Q E s:=by
 have h1:wpAny M A (spliced (backTo pos (starEach [e,e'] env))) (fun vs s'=>Q ⟨vs,[]⟩ s') E s:=args_cons (wpAny_mono h (fun v s₁ q=>args_cons (wpAny_mono q (fun v' s₂ q'=>spliced_nil q') fun _ _ z=>z) he') fun _ _ z=>z) he
 rw [he] at h1 ⊢
 exact evalArgs_plain h1
section
variable {g:Gl} {A:Around} {F:Fm} {σ:AS} {s:Shared} {K:Frag} {E:Value→Shared→Prop}
theorem raw_blt {env:Env} {x:Str} {v:Value} {pos:Pos} {u:Shared} {Q:Value→Shared→Prop} (hO:OldT g.h₁ u.heap) (hkind:env.scope.kind=.function) (hgl:env.globals=mainGlobals) (hbl:env.builtins=builtinsNs) (hg:g.Blt x v) (h:Q v u) (hx:env.kindOf x=some .globalImplicit) (hd:(x == ("__debug__":Str))=false:=by decide) :
  wpAny (model g.prog g.w) A (eval (.Name x pos) env) Q E u:=by
 obtain ⟨mg,o,mb,ob,n,e,hc,hm,nb,eb,hcb,hv⟩:=hg
 exact Name_function_global hkind hx (loadGlobal_builtin (hgl ▸ Ns_old hO n e hc) hm (hbl ▸ Ns_old hO nb eb hcb) hv h) hd
theorem raw_glob {env:Env} {x:Str} {v:Value} {pos:Pos} {u:Shared} {Q:Value→Shared→Prop} (hO:OldT g.h₁ u.heap) (hkind:env.scope.kind=.function) (hgl:env.globals=mainGlobals) (hg:g.Glob x v) (h:Q v u) (hx:env.kindOf x=some .globalImplicit) (hd:(x == ("__debug__":Str))=false:=by decide) :
  wpAny (model g.prog g.w) A (eval (.Name x pos) env) Q E u:=by
 obtain ⟨mg,o,n,e,hc,hv⟩:=hg
 exact Name_function_global hkind hx (loadGlobal_global (hgl ▸ Ns_old hO n e hc) hv h) hd
theorem raw_len {env:Env} {x:Str} {pos p1 p2:Pos} {a:List Nat} {t:Tok} {u:Shared} {m:Str→Option Value} {Q:Value→Shared→Prop} (hO:OldT g.h₁ u.heap) (hkind:env.scope.kind=.function) (hgl:env.globals=mainGlobals) (hbl:env.builtins=builtinsNs) (hlen:g.Blt "len" (.builtin "len"))
  (hkl:env.kindOf "len" = some .globalImplicit) (hkx:env.kindOf x=some .local) (hn:u.heap.Ns env.locals m) (hm:m x=some (.str (ofL a) t)) (hz:a.length≤1000000) (h:∀ t' k,Q (.int a.length t') { u with toks:=k }) (hd:(x == ("__debug__":Str))=false)
  (he:eval (.Call (.Name "len" p1) [.Name x p2] [] pos) env=(do callWith pos (← eval (.Name "len" p1) env) [] (backTo pos (starEach [.Name x p2] env)) (backToKw pos (keywordEach [] env))))
  (hst:starEach [.Name x p2] env=(false,eval (.Name x p2) env) :: starEach [] env) (hns:(backTo pos (starEach [.Name x p2] env)).any (·.1)=false) :
  wpAny (model g.prog g.w) A (eval (.Call (.Name "len" p1) [.Name x p2] [] pos) env) Q E u:=by
 refine Call_ (raw_blt hO hkind hgl hbl hlen ?_ hkl) he
 refine callWith_flat rfl hns (one_arg ?_ hst)
 refine wpAny_Name (wpAny_loadName_local hkind hkx hn hm ?_) hd
 exact len_str (by rw [ofL_len]; omega) (by rw [ofL_len]; exact h _ _)
theorem elt_lens {env:Env} {xa xb:Str} {pos p1 p2 p3 p4 p5 p6:Pos} {a b:List Nat} {ta tb:Tok} {u:Shared} {m:Str→Option Value} (hO:OldT g.h₁ u.heap) (hkind:env.scope.kind=.function) (hgl:env.globals=mainGlobals) (hbl:env.builtins=builtinsNs) (hlen:g.Blt "len" (.builtin "len"))
  (hkl:env.kindOf "len" = some .globalImplicit) (hka:env.kindOf xa=some .local) (hkb:env.kindOf xb=some .local) (hn:u.heap.Ns env.locals m) (hma:m xa=some (.str (ofL a) ta)) (hmb:m xb=some (.str (ofL b) tb)) (hza:a.length≤1000000) (hzb:b.length≤1000000) (hda:(xa == ("__debug__":Str))=false) (hdb:(xb == ("__debug__":Str))=false)
  (he:∀ x pos p1 p2,eval (.Call (.Name "len" p1) [.Name x p2] [] pos) env=(do callWith pos (← eval (.Name "len" p1) env) [] (backTo pos (starEach [.Name x p2] env)) (backToKw pos (keywordEach [] env))))
  (hst:∀ x p2,starEach [.Name x p2] env=(false,eval (.Name x p2) env) :: starEach [] env) (hns:∀ x p2 pos,(backTo pos (starEach [.Name x p2] env)).any (·.1)=false) :
  wpAny (model g.prog g.w) A (eval (.BinOp (.Call (.Name "len" p1) [.Name xa p2] [] p3) .Add (.Call (.Name "len" p4) [.Name xb p5] [] p6) pos) env) (fun y u'=>(∃ t',y=.int ((a.length + b.length:Nat):Int) t')∧Keeps u u') E u:=by
 refine wpAny_BinOp (raw_len hO hkind hgl hbl hlen hkl hka hn hma hza ?_ hda (he _ _ _ _) (hst _ _) (hns _ _ _))
 intro t1 k1
 refine raw_len (u:={ u with toks:=k1 }) hO hkind hgl hbl hlen hkl hkb hn hmb hzb ?_ hdb (he _ _ _ _) (hst _ _) (hns _ _ _)
 intro t2 k2
 refine add_int ?_
 exact ⟨⟨_,by rw [Int.natCast_add]⟩,u.heap,_,rfl,fun _ _ e=>e⟩
theorem EV_sumGen {x dx C c Pt:Addr} {att:List (Str × PV)} {ls:List (List Nat × List Nat)} {init:Int} {ps pa pb pt gpos p0 p1 p2 p3 p4 p5 p6 p7 ps2 ap pos:Pos} {kt:Nat} {scope:Scope} {P:PV→AS→Prop}
  (hr:Rm A 0) (hK:Fg g K) (hC:ClsLst K C) (hit:findIn K (.ref C) "__iter__" = some (some (.builtin "list.__iter__"))) (hni:findIn K (.ref C) "_initial_size" = some none) (hB:BmOk g) (T:CodeTab g c Pt) (hcode:F.env.code=.ref c) (hk:FnEnv F)
  (hsum:g.Blt "sum" (.builtin "sum")) (hlen:g.Blt "len" (.builtin "len"))
  (hz:(x,.inst dx C att (some (ls.map fun p=>.tup [tx p.1,tx p.2])))∈σ.zone) (hself:σ.loc.lookup ("self":Str)=some (.raw (.ref x))) (hatt:att.lookup ("_initial_size":Str)=some (.int init)) (hi0:-1000000≤init) (hi1:init≤1000000) (hls:ls.length≤1000) (hlp:∀ p∈ls,p.1.length + p.2.length≤1000)
  (h:P (.int (init + (ls.map fun p=>((p.1.length + p.2.length:Nat):Int)).sum)) σ)
  (hclos:closureFor scope F.env=pure []:=by with_unfolding_all rfl) (hco:scope.isCoroutine=false:=by with_unfolding_all rfl) (hcell:(scope.names.all fun y=>y.2 != .cell)=true:=by with_unfolding_all rfl) (h0:scope.names.lookup (".0":Str)=some NameKind.local:=by with_unfolding_all rfl)
  (hxa:scope.names.lookup ("fws":Str)=some .local:=by with_unfolding_all rfl) (hxb:scope.names.lookup ("part":Str)=some .local:=by with_unfolding_all rfl) (hxl:scope.names.lookup ("len":Str)=some .globalImplicit:=by with_unfolding_all rfl) (hkind:scope.kind=.function:=by with_unfolding_all rfl) (hfold:∀ y,genFold (.Name "self" ps) F.env y=pure y:=by intro _; with_unfolding_all rfl)
  (hks:F.env.kindOf "sum" = some .globalImplicit:=by with_unfolding_all rfl)
  (helc:∀ (env:Env) x pos p1 p2,eval (.Call (.Name "len" p1) [.Name x p2] [] pos) env=(do callWith pos (← eval (.Name "len" p1) env) [] (backTo pos (starEach [.Name x p2] env)) (backToKw pos (keywordEach [] env))):=by intro _ _ _ _ _; with_unfolding_all rfl)
  (helst:∀ (env:Env) x p2,starEach [.Name x p2] env=(false,eval (.Name x p2) env) :: starEach [] env:=by intro _ _ _; with_unfolding_all rfl) (helns:∀ (env:Env) x p2 pos,(backTo pos (starEach [.Name x p2] env)).any (·.1)=false:=by intro _ _ _ _; with_unfolding_all rfl) :
  EV g A F (.Call (.Name "sum" p0) [.GeneratorExp (.BinOp (.Call (.Name "len" p1) [.Name "fws" p2] [] p3) .Add (.Call (.Name "len" p4) [.Name "part" p5] [] p6) p7) [⟨.Tuple [.Name "fws" pa,.Name "part" pb] kt pt,.Name "self" ps,[],0⟩] scope gpos,.Attribute (.Name "self" ps2) "_initial_size" ap] [] pos) σ P:=by
 intro s S Q E k
 refine Call_ (raw_blt S.old hk.kind hk.gl hk.bl hsum ?_ hks) (by with_unfolding_all rfl)
 refine callWith_flat rfl (by with_unfolding_all rfl) (two_args ?_)
 refine gen_pairs (Fp:=fun p y=>∃ t',y=.int ((p.1.length + p.2.length:Nat):Int) t') (cl:=[]) hr hK hC hit hB T hcode hk S hz hself hclos hco hcell h0 hxa hxb (by decide) hkind hfold (by decide) (by decide) ?_ ?_
 ·intro L code A' E' p ta tb u m₂ hA hp hO hn ha hb
  have:=hlp p hp
  exact elt_lens hO hkind hk.gl rfl hlen hxl hxa hxb hn ha hb (by omega) (by omega) (by decide) (by decide) (helc _) (helst _) (helns _)
 ·intro a s₅ fp wr G St S₅ W hst hT ha hfp back
  obtain ⟨v₀,hn₀,hv₀⟩:=S₅.loc ("self":Str) _ hself
  cases hv₀
  have hd:(("self":Str) == ("__debug__":Str))=false:=by decide
  have hd2:(("self":Str) == Str.ofString "__classdict__")=false:=by decide
  have lname:∀ (Q':Value→Shared→Prop),Q' (.ref x) s₅→wpAny (model g.prog g.w) A (eval (.Name "self" ps2) F.env) Q' E s₅:=by
   intro Q' hq
   rcases hn₀ with ⟨e,m,n,hm⟩ | ⟨e,cc,o,hcl,ho,hd'⟩
   ·exact wpAny_Name (wpAny_loadName_local hk.kind e n hm hq) hd
   ·rcases e with e | e
    ·exact wpAny_Name (wpAny_loadName_cell hk.kind e hcl ⟨o,ho,hd'⟩ hq) hd
    ·exact wpAny_Name (wpAny_loadName_free hk.kind e hcl ⟨o,ho,hd'⟩ hq hd2) hd
  refine Attribute_Name_ (lname _ ?_)
  obtain ⟨d,es,n,I,_,r⟩:=inst_at (S₅.zs _ hz)
  obtain ⟨v,hv1,hv2⟩:=lookIn_has (n:=n) r hatt
  cases hv2 with
  | int _ ti =>
   refine get_value_lst hC (hK.now S₅) I (findObj_own hC.toClsOk hni hv1) rfl ?_
   have W':=W.in4_1
   have e1:(fun (i:Nat)=>((ls[i]?.map fun p=>((p.1.length + p.2.length:Nat):Int)).getD 0))=fun i=>(ls.map fun p=>((p.1.length + p.2.length:Nat):Int)).getD i 0:=by
    funext i; rw [List.getD_eq_getElem?_getD,List.getElem?_map]
   have hpre:∀ j,preSum (fun i=>(ls.map fun p=>((p.1.length + p.2.length:Nat):Int)).getD i 0) j=((ls.map fun p=>((p.1.length + p.2.length:Nat):Int)).take j).sum:=preSum_getD _
   have hbound:∀ l:List (List Nat × List Nat),(∀ p∈l,p.1.length + p.2.length≤1000)→0≤(l.map fun p=>((p.1.length + p.2.length:Nat):Int)).sum∧(l.map fun p=>((p.1.length + p.2.length:Nat):Int)).sum≤1000 * l.length:=by
    intro l hl
    induction l with
    | nil=>simp
    | cons q r ih =>
     have h1:=hl q List.mem_cons_self
     have h2:=ih fun p hp=>hl p (List.mem_cons_of_mem _ hp)
     simp only [List.map_cons,List.sum_cons,List.length_cons]
     omega
   have h63:(2:Int) ^ 63=9223372036854775808:=by decide
   refine call_sum_base ⟨by rw [h63]; omega,by rw [h63]; omega⟩ (W'.self 0 _ _ _ (W'.frame 0 s₅ _ _ hst (Nat.le_succ _) fun _ _ _ e=>e) ?_)
   refine ⟨a,_,_,_,ls.length,_,_,fun i=>(ls.map fun p=>((p.1.length + p.2.length:Nat):Int)).getD i 0,rfl,W',W'.frame 0 s₅ _ _ hst (Nat.le_succ _) fun _ _ _ e=>e,hfp,?_,?_,?_⟩
   ·rintro i y ⟨p,h1,t',rfl⟩
    refine ⟨t',?_⟩
    dsimp only
    rw [List.getD_eq_getElem?_getD,List.getElem?_map,h1]; rfl
   ·intro j hj
    have hb:=hbound (ls.take (j + 1)) fun p hp=>hlp p (List.mem_of_mem_take hp)
    rw [hpre,← List.map_take]
    have hlen':(ls.take (j + 1)).length≤1000:=Nat.le_trans (List.length_take_le _ _) (by omega)
    have hp:=hlp ls[j] (List.getElem_mem hj)
    have e2:(ls.map fun p=>((p.1.length + p.2.length:Nat):Int)).getD j 0=((ls[j].1.length + ls[j].2.length:Nat):Int):=by rw [List.getD_eq_getElem?_getD,List.getElem?_map,List.getElem?_eq_getElem hj]; rfl
    dsimp only
    rw [e2]
    constructor
    ·constructor <;> (rw [h63]; omega)
    ·constructor <;> (rw [h63]; omega)
   ·intro s' t' hm
    have hm':Moved wr G s₅ s':=⟨hm.heap,hm.gens,hm.drawn,hm.os,Nat.le_trans (Nat.le_succ _) hm.toks⟩
    obtain ⟨S',st'⟩:=back s' hm'
    have e3:preSum (fun i=>(ls.map fun p=>((p.1.length + p.2.length:Nat):Int)).getD i 0) ls.length=(ls.map fun p=>((p.1.length + p.2.length:Nat):Int)).sum:=by
     rw [hpre,List.take_of_length_le (by simp)]
    rw [e3]
    exact k _ _ σ s' h S' (.int _ _) st'
theorem elt_join {env:Env} {pl:Sem Bool} {xa xb:Str} {pos ap tp p1 p2 p3:Pos} {kt:Nat} {a b:List Nat} {t0 ta tb:Tok} {u:Shared} {m:Str→Option Value} (hO:OldT g.h₁ u.heap) (hkind:env.scope.kind=.function) (hgl:env.globals=mainGlobals) (hes:g.Glob "EMPTYSTRING" (.str (ofL []) t0))
  (hke:env.kindOf "EMPTYSTRING" = some .globalImplicit) (hka:env.kindOf xa=some .local) (hkb:env.kindOf xb=some .local) (hn:u.heap.Ns env.locals m) (hma:m xa=some (.str (ofL a) ta)) (hmb:m xb=some (.str (ofL b) tb)) (hz:a.length + b.length≤1000000) (hda:(xa == ("__debug__":Str))=false) (hdb:(xb == ("__debug__":Str))=false)
  (he:eval (.Call (.Attribute (.Name "EMPTYSTRING" p1) "join" ap) [.Tuple [.Name xa p2,.Name xb p3] kt tp] [] pos) env=(do
   let ov ← eval (.Name "EMPTYSTRING" p1) env
   standAt ap.atName
   let (f,first) ← holding [ov] (getMethod ov "join" pl)
   callWith pos f first (backTo pos (starEach [.Tuple [.Name xa p2,.Name xb p3] kt tp] env)) []))
  (hst:starEach [.Tuple [.Name xa p2,.Name xb p3] kt tp] env=(false,eval (.Tuple [.Name xa p2,.Name xb p3] kt tp) env) :: starEach [] env) (hns:(backTo pos (starEach [.Tuple [.Name xa p2,.Name xb p3] kt tp] env)).any (·.1)=false)
  (hs1:starEach [.Name xa p2,.Name xb p3] env=(false,eval (.Name xa p2) env) :: starEach [.Name xb p3] env) (hs2:starEach [.Name xb p3] env=(false,eval (.Name xb p3) env) :: starEach [] env) :
  wpAny (model g.prog g.w) A (eval (.Call (.Attribute (.Name "EMPTYSTRING" p1) "join" ap) [.Tuple [.Name xa p2,.Name xb p3] kt tp] [] pos) env) (fun y u'=>(∃ t',y=.str (ofL (a++b)) t')∧Keeps u u') E u:=by
 refine MethodCall_ (raw_glob hO hkind hgl hes ?_ hke) he
 refine GM.of _ (typeIs_str _ _ _) PySem.F.slot_str_join PySem.F.type_str_join GM.noRef ?_
 refine callWith_builtin hns (one_arg ?_ hst)
 refine Tuple_ (args_cons (wpAny_Name (wpAny_loadName_local hkind hka hn hma ?_) hda) hs1)
 refine args_cons (wpAny_Name (wpAny_loadName_local hkind hkb hn hmb ?_) hdb) hs2
 refine spliced_nil ?_
 refine wpAny_newTuple ?_ (by simp [sizeLine])
 have hp:(u.heap.push (tupObj #[.str (ofL a) ta,.str (ofL b) tb] 0)).get? u.heap.objs.size=some (tupObj #[.str (ofL a) ta,.str (ofL b) tb] 0):=Heap.get?_push_size _ rfl
 refine join_tuple (ys:=[ofL a,ofL b]) (items:=#[.str (ofL a) ta,.str (ofL b) tb]) ⟨_,hp,rfl,_,rfl⟩ (.cons _ _ (.cons _ _ .nil)) ?_ ?_
 ·show _≤_
  simp only [List.map_cons,List.map_nil,List.sum_cons,List.sum_nil,ofL_len,List.length_cons,List.length_nil]
  omega
 ·intro t' tk
  rw [show Txt.join (ofL []) [ofL a,ofL b]=ofL (a++b) from (StrLaws.glued_eq_join _ _).trans ((ofL_join [] [a,b]).trans (by simp [joinL]))]
  exact ⟨⟨_,rfl⟩,_,_,rfl,fun b' o e=>Heap.get?_push_of_some _ e⟩
theorem EV_joinGen {x dx C c Pt:Addr} {att:List (Str × PV)} {ls:List (List Nat × List Nat)} {t0:Tok} {ps pa pb pt gpos p0 p1 p2 p3 p4 ap iap itp pos:Pos} {kt kt':Nat} {pl:Sem Bool} {pl':Addr→Value→Sem Bool} {scope:Scope} {P:PV→AS→Prop}
  (hr:Rm A 0) (hK:Fg g K) (hC:ClsLst K C) (hit:findIn K (.ref C) "__iter__" = some (some (.builtin "list.__iter__"))) (hB:BmOk g) (T:CodeTab g c Pt) (hcode:F.env.code=.ref c) (hk:FnEnv F)
  (hes:g.Glob "EMPTYSTRING" (.str (ofL []) t0))
  (hz:(x,.inst dx C att (some (ls.map fun p=>.tup [tx p.1,tx p.2])))∈σ.zone) (hself:σ.loc.lookup ("self":Str)=some (.raw (.ref x))) (hls:ls.length≤1000) (hlp:∀ p∈ls,p.1.length + p.2.length≤1000)
  (h:P (tx (ls.map fun p=>p.1++p.2).flatten) σ)
  (he:eval (.Call (.Attribute (.Name "EMPTYSTRING" p0) "join" ap) [.GeneratorExp (.Call (.Attribute (.Name "EMPTYSTRING" p1) "join" iap) [.Tuple [.Name "fws" p2,.Name "part" p3] kt' itp] [] p4) [⟨.Tuple [.Name "fws" pa,.Name "part" pb] kt pt,.Name "self" ps,[],0⟩] scope gpos] [] pos) F.env=(do
   let ov ← eval (.Name "EMPTYSTRING" p0) F.env
   standAt ap.atName
   let (f,first) ← holding [ov] (getMethod ov "join" pl)
   callWith pos f first (backTo pos (starEach [.GeneratorExp (.Call (.Attribute (.Name "EMPTYSTRING" p1) "join" iap) [.Tuple [.Name "fws" p2,.Name "part" p3] kt' itp] [] p4) [⟨.Tuple [.Name "fws" pa,.Name "part" pb] kt pt,.Name "self" ps,[],0⟩] scope gpos] F.env)) []):=by with_unfolding_all rfl)
  (hei:∀ L code,eval (.Call (.Attribute (.Name "EMPTYSTRING" p1) "join" iap) [.Tuple [.Name "fws" p2,.Name "part" p3] kt' itp] [] p4) (genEnv scope [] L code builtinsNs F.env)=(do
   let ov ← eval (.Name "EMPTYSTRING" p1) (genEnv scope [] L code builtinsNs F.env)
   standAt iap.atName
   let (f,first) ← holding [ov] (getMethod ov "join" (pl' L code))
   callWith p4 f first (backTo p4 (starEach [.Tuple [.Name "fws" p2,.Name "part" p3] kt' itp] (genEnv scope [] L code builtinsNs F.env))) []):=by intro _ _; with_unfolding_all rfl)
  (hclos:closureFor scope F.env=pure []:=by with_unfolding_all rfl) (hco:scope.isCoroutine=false:=by with_unfolding_all rfl) (hcell:(scope.names.all fun y=>y.2 != .cell)=true:=by with_unfolding_all rfl) (h0:scope.names.lookup (".0":Str)=some NameKind.local:=by with_unfolding_all rfl)
  (hxa:scope.names.lookup ("fws":Str)=some .local:=by with_unfolding_all rfl) (hxb:scope.names.lookup ("part":Str)=some .local:=by with_unfolding_all rfl) (hxe:scope.names.lookup ("EMPTYSTRING":Str)=some .globalImplicit:=by with_unfolding_all rfl) (hkind:scope.kind=.function:=by with_unfolding_all rfl) (hfold:∀ y,genFold (.Name "self" ps) F.env y=pure y:=by intro _; with_unfolding_all rfl)
  (hks:F.env.kindOf "EMPTYSTRING" = some .globalImplicit:=by with_unfolding_all rfl) :
  EV g A F (.Call (.Attribute (.Name "EMPTYSTRING" p0) "join" ap) [.GeneratorExp (.Call (.Attribute (.Name "EMPTYSTRING" p1) "join" iap) [.Tuple [.Name "fws" p2,.Name "part" p3] kt' itp] [] p4) [⟨.Tuple [.Name "fws" pa,.Name "part" pb] kt pt,.Name "self" ps,[],0⟩] scope gpos] [] pos) σ P:=by
 intro s S Q E k
 refine MethodCall_ (raw_glob S.old hk.kind hk.gl hes ?_ hks) he
 refine GM.of _ (typeIs_str _ _ _) PySem.F.slot_str_join PySem.F.type_str_join GM.noRef ?_
 refine callWith_builtin (by with_unfolding_all rfl) (one_arg ?_)
 refine gen_pairs (Fp:=fun p y=>∃ t',y=.str (ofL (p.1++p.2)) t') (cl:=[]) hr hK hC hit hB T hcode hk (S.toks _) hz hself hclos hco hcell h0 hxa hxb (by decide) hkind hfold (by decide) (by decide) ?_ ?_
 ·intro L code A' E' p ta tb u m₂ hA hp hO hn ha hb
  have:=hlp p hp
  exact elt_join hO hkind hk.gl hes hxe hxa hxb hn ha hb (by omega) (by decide) (by decide) (hei L code) (by with_unfolding_all rfl) (by with_unfolding_all rfl) (by with_unfolding_all rfl) (by with_unfolding_all rfl)
 ·intro a s₅ fp wr G St S₅ W hst hT ha hfp back
  have W':=W.in4_2
  refine SC.joinGen W' hT hst hfp ha (fun j v hv=>let ⟨p,h1,t',e⟩:=hv; ⟨_,t',e⟩) (fun s' lt hm hacc=>?_) (by have:sizeLine=16777216:=rfl; omega)
  have hl:lt.map (·.1)=ls.map fun p=>ofL (p.1++p.2):=by
   apply List.ext_getElem?
   intro j
   have hsz:lt.length=ls.length:=by simpa [strValues] using hacc.1
   by_cases hj:j < ls.length
   ·have hj':j < lt.length:=by omega
    obtain ⟨p,h1,t',hv⟩:=hacc.2 j (.str lt[j].1 lt[j].2) (by simp [strValues,List.getElem?_eq_getElem hj'])
    injection hv with h2 _
    rw [List.getElem?_map,List.getElem?_eq_getElem hj',List.getElem?_map,h1]
    simp [h2]
   ·rw [List.getElem?_eq_none (by simpa [hsz] using Nat.le_of_not_lt hj),List.getElem?_eq_none (by simpa using Nat.le_of_not_lt hj)]
  rw [hl]
  obtain ⟨S',st'⟩:=back s' hm
  have hfit:JoinFit [] (ls.map fun p=>p.1++p.2):=by
   unfold JoinFit
   have:∀ l:List (List Nat × List Nat),(∀ p∈l,p.1.length + p.2.length≤1000)→((l.map fun p=>p.1++p.2).map (·.length)).sum≤1000 * l.length:=by
    intro l hl
    induction l with
    | nil=>simp
    | cons q r ih =>
     have h1:=hl q List.mem_cons_self
     have h2:=ih fun p hp=>hl p (List.mem_cons_of_mem _ hp)
     simp only [List.map_cons,List.sum_cons,List.length_cons,List.length_append] at h2 ⊢
     omega
   have:=this ls hlp
   simp only [List.length_nil,Nat.mul_zero,Nat.add_zero]
   omega
  have em:(ls.map fun p=>ofL (p.1++p.2))=(ls.map fun p=>p.1++p.2).map ofL:=by rw [List.map_map]; rfl
  refine ⟨?_,fun t' kk=>?_⟩
  ·rw [em]
   refine joinOk_of ?_
   have e2:(((ls.map fun p=>p.1++p.2).map ofL).map fun x=>x.length)=(ls.map fun p=>p.1++p.2).map (·.length):=by rw [List.map_map]; exact List.map_congr_left fun a _=>ofL_len a
   rw [e2,ofL_len,List.length_map]
   exact hfit
  ·rw [em,show Txt.join (ofL []) ((ls.map fun p=>p.1++p.2).map ofL)=ofL (joinL [] (ls.map fun p=>p.1++p.2)) from (StrLaws.glued_eq_join _ _).trans (ofL_join _ _),joinL_nil]
   exact k _ _ σ _ h (S'.toks _) (.str _ _) (Stp.trans (Stp.trans .toks st') .toks)
end
end Mine
end SM27
section SM28
open PySem PySem.Calls PyProof.Rows PySem.W PySem.Builtin PySem.Builtin.ObjectAttr
namespace Mine
theorem Rm.in1 {A:Around} {n:Nat} (h:Rm A (n + 1)):Rm A.in1 n:=⟨h.handled,by have:=h.depth; show A.depth + n < _; omega,by have:=h.units; show A.units + 1 + 10 * n + 10 < _; omega⟩
theorem Rm.in2 {A:Around} {n:Nat} (h:Rm A (n + 1)):Rm A.in1.in1 n:=⟨h.handled,by have:=h.depth; show A.depth + n < _; omega,by have:=h.units; show A.units + 1 + 1 + 10 * n + 10 < _; omega⟩
section
variable {g:Gl} {A:Around} {F:Fm} {σ:AS} {s:Shared} {K:Frag} {P:PV→AS→Prop}
theorem CL_mono {f:Value} {ps:List PV} {P P':PV→AS→Prop} (x:CL g A F f ps σ P) (h:∀ p σ',P p σ'→P' p σ'):CL g A F f ps σ P':=fun s vs S hvs Q E k=>x s vs S hvs Q E fun a b σ' s' hb=>k a b σ' s' (h b σ' hb)
theorem args_len1 (a:Value):argsOk "len" ⟨[a],[]⟩:=by unfold argsOk; kernel_rfl
theorem kind_len:builtinKind "len" = none:=by decide +kernel
theorem plain_len:plainId "len" = true:=by decide +kernel
theorem entry_len':entryFor table "len" = some Builtin.«len»:=entryFor_of_tree (by kernel_rfl)
theorem len_tree {A:Around} {x dx C f:Addr} {att:List (Str × PV)} {body:Option (List PV)} {E:Value→Shared→Prop} {Q:Fin→Shared→Prop} (hK:Fg g K) (S:Sat g F σ s) (hz:(x,.inst dx C att body)∈σ.zone) (hf:findIn K (.ref C) "__len__" = some (some (.ref f))) (ht:typeIn K (.ref f)=some (.type "function"))
  (h:CL g A F (.ref f) [.raw (.ref x)] σ fun p σ'=>∃ n:Nat,p=.int n∧n < 2 ^ 62∧P (.int n) σ')
  (k:∀ (n:Nat) t σ' s',P (.int n) σ'→Sat g F σ' s'→Stp [] σ.own s σ'.own s'→Q (.done (.ret (.int n t))) s'):wpAny (model g.prog g.w) A (Builtin.«len» ⟨[.ref x],[]⟩) Q E s:=by
 obtain ⟨d,es,n,I,_,r⟩:=inst_at (S.zs _ hz)
 show wpAny _ _ (callSpecial? (.ref x) "__len__">>=_) _ _ _
 refine wpAny_bind (special_fn (hK.now S) I hf ht ?_)
 refine h s [.ref x] S (.cons (.raw _) .nil) _ E fun a p σ' s' hp S' hv st=>?_
 obtain ⟨n,rfl,hn,hP⟩:=hp
 cases hv with
 | int _ t =>
  have h62:(2:Nat) ^ 62=4611686018427387904:=by decide
  have h63:(2:Int) ^ 63=9223372036854775808:=by decide
  dsimp only
  refine wpAny_bind (wpAny_holding (wpAny_of_eq (a:=(n:Int)) rfl ?_))
  refine wpAny_bind (wpAny_letGo ?_)
  rw [if_neg (by omega),if_neg (by rw [h63]; omega)]
  show wpAny _ _ (mkInt (n:Int)>>=fun r=>ret r) _ _ _
  refine wpAny_bind (wpAny_mkInt (wpAny_pure ?_))
  exact k n _ σ' _ hP (S'.toks _) (st.trans .toks)
theorem CL_len_inst {x dx C f:Addr} {att:List (Str × PV)} {body:Option (List PV)} (hK:Fg g K) (hz:(x,.inst dx C att body)∈σ.zone) (hf:findIn K (.ref C) "__len__" = some (some (.ref f))) (ht:typeIn K (.ref f)=some (.type "function"))
  (h:CL g A.in1 F (.ref f) [.raw (.ref x)] σ fun p σ'=>∃ n:Nat,p=.int n∧n < 2 ^ 62∧P (.int n) σ'):CL g A F (.builtin "len") [.raw (.ref x)] σ P:=by
 intro s vs S hvs Q E k
 cases hvs with | cons hv hs=>cases hs; cases hv; (
  refine call_function_tree kind_len plain_len entry_len' (args_len1 _) ?_
  refine len_tree hK S hz hf ht h fun n t σ' s' hP S' st=>?_
  exact k _ _ σ' s' hP S' (.int _ _) st)
theorem CL_str_inst {x dx C f:Addr} {att:List (Str × PV)} {body:Option (List PV)} {n:Nat} (hr:Rm A (n + 1)) (hK:Fg g K) (hz:(x,.inst dx C att body)∈σ.zone) (hf:findIn K (.ref C) "__str__" = some (some (.ref f))) (ht:typeIn K (.ref f)=some (.type "function"))
  (h:CL g A.in1.in1 F (.ref f) [.raw (.ref x)] σ fun p σ'=>∃ l,p=tx l∧P (tx l) σ'):CL g A F (.type "str") [.raw (.ref x)] σ P:=by
 intro s vs S hvs Q E k
 cases hvs with | cons hv hs=>cases hs; cases hv; (
  obtain ⟨d,es,n',I,_,r⟩:=inst_at (S.zs _ hz)
  refine kso_call (by have:=(Rm.in2 hr).units; omega) (hK.now S) I hf (by show (typeIn K (.ref f) == some (.type "function"))=true; rw [ht]; simp) ?_
  refine h s [.ref x] S (.cons (.raw _) .nil) _ E fun a p σ' s' hp S' hv st=>?_
  obtain ⟨l,rfl,hP⟩:=hp
  cases hv with
  | str _ t=>exact k _ _ σ' s' hP S' (.str _ _) st)
theorem TT_inst {x dx C f:Addr} {att:List (Str × PV)} {body:Option (List PV)} {P:Bool→AS→Prop} (hK:Fg g K) (hz:(x,.inst dx C att body)∈σ.zone) (hnb:findIn K (.ref C) "__bool__" = some none) (hf:findIn K (.ref C) "__len__" = some (some (.ref f))) (ht:typeIn K (.ref f)=some (.type "function"))
  (h:CL g A.in1 F (.ref f) [.raw (.ref x)] σ fun p σ'=>∃ n:Nat,p=.int n∧n < 2 ^ 62∧P (n != 0) σ'):TT g A F (.raw (.ref x)) σ P:=by
 intro s v S hv Q E k
 cases hv
 obtain ⟨d,es,n',I,_,r⟩:=inst_at (S.zs _ hz)
 have L1:=looks_findIn (M:=model g.prog g.w) (hK.now S) hnb
 have L2:=looks_findIn (M:=model g.prog g.w) (hK.now S) hf
 unfold truthy callSpecial? specialOf
 refine wpAny_bind (wpAny_bind (wpAny_bind (I.type.here (L1.here ?_))))
 dsimp only
 refine wpAny_pure ?_
 refine wpAny_bind (wpAny_bind (I.type.here (L2.here ?_)))
 rw [if_neg (by simp)]
 refine wpAny_bind (wpAny_runValue (codeAny_builtin entry_len' ?_))
 rw [Around.under_plainId plain_len _]
 refine len_tree (P:=fun p σ'=>∃ n:Nat,p=.int n∧P (n != 0) σ') hK S hz hf ht (CL_mono h fun p σ' ⟨n,e,h1,h2⟩=>⟨n,e,h1,n,rfl,h2⟩) fun n t σ' s' hP S' st=>?_
 obtain ⟨m,e,hP⟩:=hP
 have hmn:m=n:=by injection e with e; exact (Int.ofNat.inj e).symm
 subst hmn
 have e2:((m:Int) != 0)=(m != 0):=by cases m <;> rfl
 show wpAny _ _ (pure ((m:Int) != 0)) _ _ _
 rw [e2]
 exact wpAny_pure (k _ σ' s' hP S' st)
theorem CL_append_inst {x dx C:Addr} {att:List (Str × PV)} {l:List PV} {p:PV} {zone':List (Addr × MO)} (hK:Fg g K) (hC:ClsLst K C) (U:ZAt x (.inst dx C att (some l)) (.inst dx C att (some (l++[p]))) σ.zone zone') (hlen:l.length≤1000000) (h:P (.raw .none) ⟨σ.loc,zone'⟩) :
  CL g A F (.builtin "list.append") [.raw (.ref x),p] σ P:=by
 intro s vs S hvs Q E k
 cases hvs with | cons hv hs=>cases hs with | cons hu hs=>cases hs; cases hv; (
  rename_i v
  obtain ⟨pre,post,e1,e2⟩:=U.split
  have hz:=S.zs (x,.inst dx C att (some l)) (by rw [e1]; simp)
  obtain ⟨d,es,n',I,hb,r⟩:=inst_at hz
  obtain ⟨d,es,n,h1,⟨items,m,rfl,h2⟩,h3,h4⟩:=hz
  have hl:=h2.length
  simp only [Array.length_toList] at hl
  refine call_inst id_append hC (hK.now S) I (args_list_append _ _) ?_
  show wpAny _ _ (updateSeq x (·.push v)>>=fun _=>ret .none) _ _ s
  refine wpAny_bind ?_
  refine wpAny_updateSeq h1 rfl (wpAny_pure ⟨.none,rfl,?_⟩) (by have:sizeLine=16777216:=rfl; omega)
  have hs:Heap.SameBut x s.heap (s.heap.update x (Obj.mapSeq fun y=>y.push v)):=.update ..
  have hg:(s.heap.update x (Obj.mapSeq fun y=>y.push v)).get? x=some { cls:=.ref C,dict:=some dx,data:=.seq (items.push v) (m + 1) }:=by
   have:=Heap.get?_update_self (Obj.mapSeq fun y=>y.push v) h1 (by simp [Obj.mapSeq,Obj.isFreed])
   rw [this]
   simp [Obj.mapSeq]
  have hxd:dx≠x:=by
   intro q; subst q
   rw [h1] at h3; cases h3
  obtain ⟨S',st⟩:=S.upd U rfl (h':=s.heap.update x (Obj.mapSeq fun y=>y.push v)) (fun b o hb e=>hs.extBut b o (fun q=>hb (by simp [MO.addrs,q])) e) fun kp=>⟨_,es,n,hg,⟨items.push v,m + 1,rfl,by
   rw [Array.toList_push]; exact (h2.mono kp).append (.cons (hu.mono kp) .nil)⟩,hs.extBut _ _ hxd h3,h4.mono kp⟩
  exact k _ _ _ _ h S' (.raw _) st)
end
end Mine
end SM28
section SM29
open PySem PySem.Calls PyProof.Rows PySem.W PySem.Builtin PySem.Builtin.ObjectAttr
namespace Mine
section
variable {g:Gl} {A:Around} {F:Fm} {σ:AS} {s:Shared} {K:Frag} {P:PV→AS→Prop} {value slice:Expr}
theorem subTail_inst {prog:Program} {w:World} {A:Around} {E:Value→Shared→Prop} {s:Shared} {value slice:Expr} {x C:Addr} {ox:Obj} {od:Option Obj} {i:Value} {ops:List Value} {Q:Value→Shared→Prop} (X:K.In s.heap) (I:InstAt s.heap x ox C od)
  (hf:findIn K (.ref C) "__getitem__" = some (some (.builtin "list.__getitem__"))) (hs:subscripted slice false (.ref x) i=operate ops (getItem (.ref x) i)) (h:wpAny (model prog w) A (getItem (.ref x) i) Q E s) :
  wpAny (model prog w) A (subscriptTail value slice (.ref x) i) Q E s:=by
 unfold subscriptTail
 refine wpAny_bind ?_
 rw [getitemInPython_of_ne (by simp)]
 unfold specialOf
 refine wpAny_bind (wpAny_bind (I.type.here ((looks_findIn X hf).here ?_)))
 have fin:wpAny (model prog w) A (subscripted slice false (.ref x) i) (fun r s₃=>wpAny (model prog w) A (letTemporaryGo value (.ref x) r>>=fun _=>pure r) Q E s₃) E s:=by
  rw [hs]
  exact wpAny_operating (wpAny_mono h (fun r s₃ h₃=>wpAny_bind (wpAny_letTemporaryGo (wpAny_pure h₃))) fun _ _ x=>x)
 first
  | exact wpAny_pure (wpAny_bind fin)
  | exact wpAny_bind (wpAny_pure (wpAny_bind fin))
  | exact wpAny_bind fin
structure LstOps (K:Frag) (C:Addr):Prop where
 lst:ClsLst K C
 get:findIn K (.ref C) "__getitem__" = some (some (.builtin "list.__getitem__"))
 set:findIn K (.ref C) "__setitem__" = some (some (.builtin "list.__setitem__"))
 iter:findIn K (.ref C) "__iter__" = some (some (.builtin "list.__iter__"))
theorem IX_inst {x dx C:Addr} {att:List (Str × PV)} {l:List PV} {i:Int} {p:PV} (hK:Fg g K) (ok:LstOps K C) (hz:(x,.inst dx C att (some l))∈σ.zone) (h0:0≤i) (hc:l[i.toNat]?=some p) (hl:l.length≤1000000) (h:P p σ)
  (hs:∀ v u,subscripted slice false v u=operate [v,u] (getItem v u):=by intro _ _; with_unfolding_all rfl):IX g A F value slice (.raw (.ref x)) (.int i) σ P:=fun s v u S hv hu Q E k=>by
 cases hv
 cases hu with
 | int _ t =>
  obtain ⟨d,es,n,I,⟨items,m,hd,hit⟩,r⟩:=inst_at (S.zs _ hz)
  subst hd
  obtain ⟨v,hv1,hv2⟩:=hit.get hc
  have hsz:=hit.toArray
  refine subTail_inst (hK.now S) I ok.get (hs _ _) ?_
  refine getItem_inst ok.lst (hK.now S) I ok.get slot_list_getitem.bind ?_
  refine call_inst id_getitem ok.lst (hK.now S) I (args_list_getitem _ _) ?_
  exact run_getitem_int I.at_ (by omega) h0 (by simpa using hv1) ⟨v,rfl,k v p σ s h S hv2 .refl⟩
theorem EV_SubSlice_inst {lower upper:Option Expr} {pp pos:Pos} (hK:Fg g K)
  (h:EV g A F value σ fun p σ₁=>PT g A F lower σ₁ fun lo σ₂=>PT g A F upper σ₂ fun hi σ₃=>∃ x dx C att l,p=.raw (.ref x)∧LstOps K C∧(x,.inst dx C att (some l))∈σ₃.zone∧l.length≤1000000∧P (.lst (sl l lo hi)) σ₃) :
  EV g A F (.Subscript value (.Slice lower upper none pp) pos) σ P:=by
 intro s S Q E k
 refine Subscript_ (h s S _ E fun v p σ₁ s₁ h₁ S₁ hv st₁=>wpAny_Slice (h₁ s₁ S₁ _ E fun vl lo σ₂ s₂ h₂ S₂ hl st₂=>h₂ s₂ S₂ _ E fun vu hi σ₃ s₃ h₃ S₃ hu st₃=>?_))
 rw [evalPart_none]
 obtain ⟨x,dx,C,att,l,rfl,ok,hz,hlen,hP⟩:=h₃
 cases hv
 have S₄:=S₃.push { cls:=.type "slice",data:=.fields #[vl,vu,.none] }
 have st₄:Stp [] σ₁.own s₁ σ₃.own _:=st₂.trans (st₃.trans (Stp.push { cls:=.type "slice",data:=.fields #[vl,vu,.none] }))
 obtain ⟨d,es,n,I,⟨items,m,hd,hit⟩,r⟩:=inst_at (S₄.zs _ hz)
 subst hd
 have hsz:=hit.toArray
 refine wpAny_pure (subTail_inst (ops:=[.ref s₃.heap.objs.size,.ref x]) (hK.now S₄) I ok.get rfl ?_)
 refine getItem_inst ok.lst (hK.now S₄) I ok.get slot_list_getitem.bind ?_
 refine call_inst id_getitem ok.lst (hK.now S₄) I (args_list_getitem _ _) ?_
 refine run_getitem_slice I.at_ (by have:sizeLine=16777216:=rfl; omega) (Heap.IsSliceOf.new _ _ _ _) hl hu ⟨_,rfl,?_⟩
 have hv':VR _ σ₃.own (.lst (sl l lo hi)) (.ref _):=VR.newLst S₄ (hit.sl lo hi)
 refine k _ _ σ₃ _ hP (S₄.push _) ?_ (st₁.trans (st₄.trans (.push _)))
 simpa using hv'
theorem VRs.cut {h:Heap} {own:List Addr} {l ps:List PV} {items its:Array Value} (a:VRs h own l items.toList) (b:VRs h own ps its.toList) (lo hi:Option Int) :
  VRs h own (l.take (slo l.length lo)++ps++l.drop (max (slo l.length lo) (shi l.length hi))) (items.extract 0 (lo.elim 0 (clipAt items.size))++its++items.extract (max (lo.elim 0 (clipAt items.size)) (hi.elim items.size (clipAt items.size))) items.size).toList:=by
 have hsz:=a.toArray
 rw [hsz]
 have e1:lo.elim 0 (clipAt l.length)=slo l.length lo:=rfl
 have e2:hi.elim l.length (clipAt l.length)=shi l.length hi:=rfl
 rw [e1,e2]
 rw [Array.toList_append,Array.toList_append]
 refine VRs.append (VRs.append ?_ b) ?_
 ·rw [show (items.extract 0 (slo l.length lo)).toList=items.toList.take (slo l.length lo) from by simp]
  exact a.take _
 ·rw [show (items.extract (max (slo l.length lo) (shi l.length hi)) l.length).toList=items.toList.drop (max (slo l.length lo) (shi l.length hi)) from by
   rw [Array.toList_extract,List.extract_eq_drop_take,← hsz,List.take_of_length_le]
   simp]
  exact a.drop _
theorem EX_SetSlice_inst {o:Expr} {lower upper:Option Expr} {pp tpos pos:Pos} {P:Fl→AS→Prop} (hK:Fg g K)
  (h:EV g A F value σ fun q σ₀=>EV g A F o σ₀ fun p σ₁=>PT g A F lower σ₁ fun lo σ₂=>PT g A F upper σ₂ fun hi σ₃=>∃ x dx C att l ps zone',p=.raw (.ref x)∧(q=.lst ps∨∃ D,q=.raw (.ref D)∧(D,.list ps)∈σ₃.zone)∧LstOps K C ∧
   ZAt x (.inst dx C att (some l)) (.inst dx C att (some (l.take (slo l.length lo)++ps++l.drop (max (slo l.length lo) (shi l.length hi))))) σ₃.zone zone'∧l.length + ps.length≤1000000∧P .next ⟨σ₃.loc,zone'⟩)
  (hs:swapsWith value (some (.Subscript o (.Slice lower upper none pp) tpos)) pos.line F.env=pure false:=by with_unfolding_all rfl):EX g A F (.Assign [.Subscript o (.Slice lower upper none pp) tpos] value pos) σ P:=by
 intro s S Q E k
 refine wpAny_Assign_Subscript (h s S _ E fun w q σ₀ s₀ h₀ S₀ hq st₀=>?_) hs
 refine h₀ s₀ S₀ _ E fun v p σ₁ s₁ h₁ S₁ hv st₁=>?_
 refine wpAny_Slice (h₁ s₁ S₁ _ E fun vl lo σ₂ s₂ h₂ S₂ hl st₂=>h₂ s₂ S₂ _ E fun vu hi σ₃ s₃ h₃ S₃ hu st₃=>?_)
 rw [evalPart_none]
 obtain ⟨x,dx,C,att,l,ps,zone',rfl,hqq,ok,U,hlen,hP⟩:=h₃
 cases hv
 have S₄:=S₃.push { cls:=.type "slice",data:=.fields #[vl,vu,.none] }
 have st₄:Stp [] σ₀.own s₀ σ₃.own _:=st₁.trans (st₂.trans (st₃.trans (Stp.push { cls:=.type "slice",data:=.fields #[vl,vu,.none] })))
 obtain ⟨pre,post,e1,e2⟩:=U.split
 have hz:(x,MO.inst dx C att (some l))∈σ₃.zone:=by rw [e1]; simp
 obtain ⟨d,es,n,h1,⟨items,m,rfl,hit⟩,h3,h4⟩:=S₄.zs _ hz
 have I:InstAt (s₃.heap.push { cls:=.type "slice",data:=.fields #[vl,vu,.none] }) x { cls:=.ref C,dict:=some dx,data:=.seq items m } C (some (dctObj es n)):=⟨h1,rfl,rfl,h3⟩
 have hsz:=hit.toArray
 have hsrc:∃ D its nv,w=.ref D∧(s₃.heap.push { cls:=.type "slice",data:=.fields #[vl,vu,.none] }).get? D=some (lstObj its nv)∧VRs (s₃.heap.push { cls:=.type "slice",data:=.fields #[vl,vu,.none] }) σ₃.own ps its.toList∧x≠D:=by
  have hx:x∈σ₃.own:=List.mem_flatMap.mpr ⟨_,hz,by simp [MO.addrs]⟩
  rcases hqq with rfl | ⟨D,rfl,hD⟩
  ·have hq':=hq.mono (S₀.kp st₄)
   cases hq' with
   | lst ha ho hl'=>exact ⟨_,_,_,rfl,ho,hl',fun q=>ha (q ▸ hx)⟩
  ·cases hq
   obtain ⟨its,nv,q1,q2⟩:=S₄.zs _ hD
   refine ⟨D,its,nv,rfl,q1,q2,fun q=>?_⟩
   subst q
   rw [h1] at q1; cases q1
 obtain ⟨D,its,nv,rfl,hD,hits,hxD⟩:=hsrc
 have hsz2:=hits.toArray
 refine wpAny_pure (setItem_inst ok.lst (hK.now S₄) I ok.set slot_list_setitem.bind ?_)
 refine call_inst id_setitem ok.lst (hK.now S₄) I (args_list_setitem _ _ _) ?_
 refine run_setitem_slice I.at_ rfl (by omega) hxD (Heap.IsSliceOf.new _ _ _ _) hl hu hD fun h' m' hsb hg=>⟨_,rfl,?_⟩
 have hxd:dx≠x:=by
  intro q; subst q
  rw [h1] at h3; cases h3
 obtain ⟨S',st'⟩:=S₄.upd U rfl (h':=h') (fun b o hb e=>hsb.extBut b o (fun q=>hb (by simp [MO.addrs,q])) e) fun kp=>⟨_,es,n,hg,⟨_,m',rfl,(VRs.cut hit hits lo hi).mono kp⟩,hsb.extBut _ _ hxd h3,h4.mono kp⟩
 exact k .next .next _ _ hP S' .next (Stp.up (st₀.trans (st₄.trans st')))
end
end Mine
end SM29
section SM30
open PySem PySem.Calls PyProof.Rows PySem.W PySem.Builtin PySem.Builtin.ObjectAttr
namespace Mine
section
variable {g:Gl} {A:Around} {F:Fm} {σ:AS} {s:Shared} {K:Frag}
structure StOk (g:Gl):Prop where
 ex:∃ o,g.h₁.get? cStatics=some o∧staticOf g.h₁ "thirdparty.any" = none
theorem looks_opaqueS {C:Addr} (S:Sat g F σ s) (hst:StOk g):Looks (model g.prog g.w) s.heap (opaqueClassAbove (.ref C)) none:=by
  obtain ⟨mc, hn, h2⟩ := S.lim
  obtain ⟨o, q, hst⟩ := hst.ex
  have e : staticOf s.heap "thirdparty.any" = none := by
    rcases S.old.k.old _ o q with x | ⟨t, hc, vs, more, hv, x⟩ | ⟨_, hc, _, z⟩
    · rw [OldK.staticOf_congr (x.trans q.symm)]; exact hst
    · obtain ⟨o', es, ep, e', d, r⟩ := hn
      rw [x] at e'; cases e'
      cases d
    · rcases z "thirdparty.any" with z | ⟨z, _⟩
      · rw [z]; exact hst
      · exact absurd z (by decide +kernel)
  rw [Pin.staticOf_of_ns hn] at e
  intro A' Q E s' k q
  have hn' := hn.keeps k
  show wpAny _ _ (do if !(← anyOpaqueLoaded) then return none
                     for t in (← mroOf (.ref C)) do
                       if let .ref a := t then
                         if let some k ← opaqueClassKey? a then return some k
                     return none) Q E s'
  unfold anyOpaqueLoaded
  refine wpAny_bind (wpAny_bind (wpAny_nsGet hn' (wpAny_pure ?_)))
  rw [e]
  exact wpAny_pure q
end
theorem slot_wd_get:Slot "wrapper_descriptor" "__get__" "wrapper_descriptor.__get__" :=
 .of (owner:="wrapper_descriptor") (n:="__get__") (by rw [typeLookup_type,builtinLookup_eq_fast]; kernel_rfl) (by decide +kernel) (by decide +kernel) (by decide +kernel)
  (by first | exact .inl (by decide +kernel) | exact .inr (by decide +kernel)) (by rw [isSubtype_type]; kernel_rfl)
theorem entry_wd_get:entryFor table "wrapper_descriptor.__get__" = some Builtin.«wrapper_descriptor.__get__»:=entryFor_of_tree (by kernel_rfl)
theorem args_wd_get (a b c:Value):argsOk "wrapper_descriptor.__get__" ⟨[a,b,c],[]⟩:=by unfold argsOk; kernel_rfl
theorem own_list_pop:classOwn (.type "list") "pop" = pure (some (.builtin "list.pop")):=by show (pure (builtinOwn "list" _):Sem (Option Value))=_; rw [builtinOwn_eq_fast]; kernel_rfl
theorem own_list_len:classOwn (.type "list") "__len__" = pure (some (.builtin "list.__len__")):=by show (pure (builtinOwn "list" _):Sem (Option Value))=_; rw [builtinOwn_eq_fast]; kernel_rfl
theorem own_list_init:classOwn (.type "list") "__init__" = pure (some (.builtin "list.__init__")):=by show (pure (builtinOwn "list" _):Sem (Option Value))=_; rw [builtinOwn_eq_fast]; kernel_rfl
theorem type_list_pop':typeOf (.builtin "list.pop")=pure (.type "method_descriptor"):=by show builtinType _=_; rw [builtinType_eq_fast]; kernel_rfl
theorem type_list_len':typeOf (.builtin "list.__len__")=pure (.type "wrapper_descriptor"):=by show builtinType _=_; rw [builtinType_eq_fast]; kernel_rfl
theorem type_list_init':typeOf (.builtin "list.__init__")=pure (.type "wrapper_descriptor"):=by show builtinType _=_; rw [builtinType_eq_fast]; kernel_rfl
theorem owner_pop:".".intercalate ("list.pop".cutAt '.').dropLast = "list":=by decide +kernel
theorem owner_len:".".intercalate ("list.__len__".cutAt '.').dropLast = "list":=by decide +kernel
theorem owner_init:".".intercalate ("list.__init__".cutAt '.').dropLast = "list":=by decide +kernel
abbrev boundOf (T id:String) (x:Addr):Obj:={ cls:=.type T,data:=.fields #[.builtin id,.ref x] }
section
variable {prog:Program} {w:World} {A:Around} {E:Value→Shared→Prop} {h:Heap} {g:Array GenState} {d:Drawn} {t:Nat} {os:OsState} {x C:Addr}
theorem md_get_pop {Q:Fin→Shared→Prop} (L0:Looks (model prog w) h (typeOf (.ref x)) (.ref C)) (L1:Looks (model prog w) h (isSubtype (.ref C) (.type "list")) true) (hq:Q (.done (.ret (.ref h.objs.size))) ⟨h.push (boundOf "builtin_function_or_method" "list.pop" x),g,d,t,os⟩) :
  wpAny (model prog w) A (Builtin.«method_descriptor.__get__» ⟨[.builtin "list.pop",.ref x,.ref C],[]⟩) Q E ⟨h,g,d,t,os⟩:=by
 have hT5:(⟨h,g,d,t,os⟩:Shared).TypeIs (.builtin "list.pop") "method_descriptor":=type_list_pop'
 rw [← owner_pop] at L1
 unfold Builtin.«method_descriptor.__get__»
 repeat (any_goals (first | assumption | (with_reducible refine Looks.at L0 ?_) | (with_reducible refine Looks.at L1 ?_) | wp_step))
theorem wd_get_len {Q:Fin→Shared→Prop} (L0:Looks (model prog w) h (typeOf (.ref x)) (.ref C)) (L1:Looks (model prog w) h (isSubtype (.ref C) (.type "list")) true) (hq:Q (.done (.ret (.ref h.objs.size))) ⟨h.push (boundOf "method-wrapper" "list.__len__" x),g,d,t,os⟩) :
  wpAny (model prog w) A (Builtin.«wrapper_descriptor.__get__» ⟨[.builtin "list.__len__",.ref x,.ref C],[]⟩) Q E ⟨h,g,d,t,os⟩:=by
 have hT5:(⟨h,g,d,t,os⟩:Shared).TypeIs (.builtin "list.__len__") "wrapper_descriptor":=type_list_len'
 rw [← owner_len] at L1
 unfold Builtin.«wrapper_descriptor.__get__»
 repeat (any_goals (first | assumption | (with_reducible refine Looks.at L0 ?_) | (with_reducible refine Looks.at L1 ?_) | wp_step))
theorem wd_get_init {Q:Fin→Shared→Prop} (L0:Looks (model prog w) h (typeOf (.ref x)) (.ref C)) (L1:Looks (model prog w) h (isSubtype (.ref C) (.type "list")) true) (hq:Q (.done (.ret (.ref h.objs.size))) ⟨h.push (boundOf "method-wrapper" "list.__init__" x),g,d,t,os⟩) :
  wpAny (model prog w) A (Builtin.«wrapper_descriptor.__get__» ⟨[.builtin "list.__init__",.ref x,.ref C],[]⟩) Q E ⟨h,g,d,t,os⟩:=by
 have hT5:(⟨h,g,d,t,os⟩:Shared).TypeIs (.builtin "list.__init__") "wrapper_descriptor":=type_list_init'
 rw [← owner_init] at L1
 unfold Builtin.«wrapper_descriptor.__get__»
 repeat (any_goals (first | assumption | (with_reducible refine Looks.at L0 ?_) | (with_reducible refine Looks.at L1 ?_) | wp_step))
structure SupId (prog:Program) (w:World) (x C:Addr) (name:Str) (id T BT:String):Prop where
 own:classOwn (.type "list") name=pure (some (.builtin id))
 ty:typeOf (.builtin id)=pure (.type T)
 get:∃ gid,typeLookup (.type T) "__get__" = pure (some (.builtin gid))∧∀ (A:Around) (E:Value→Shared→Prop) (h:Heap) g d t os (Q:Value→Shared→Prop),Looks (model prog w) h (typeOf (.ref x)) (.ref C)→Looks (model prog w) h (isSubtype (.ref C) (.type "list")) true →
  Q (.ref h.objs.size) ⟨h.push (boundOf BT id x),g,d,t,os⟩→wpAny (model prog w) A (call (.builtin gid) [.builtin id,.ref x,.ref C]) Q E ⟨h,g,d,t,os⟩
 nm:(name == ("__class__":Str))=false
theorem sup_pop:SupId prog w x C "pop" "list.pop" "method_descriptor" "builtin_function_or_method" :=
 ⟨own_list_pop,type_list_pop',⟨_,slot_md_get.lookup,fun A E h g d t os Q L0 L1 hq=>wpAny_call_entry slot_md_get type_list_pop' entry_md_get (md_get_pop L0 L1 ⟨_,rfl,hq⟩) (args_md_get _ _ _)⟩,by decide⟩
theorem sup_len:SupId prog w x C "__len__" "list.__len__" "wrapper_descriptor" "method-wrapper" :=
 ⟨own_list_len,type_list_len',⟨_,slot_wd_get.lookup,fun A E h g d t os Q L0 L1 hq=>wpAny_call_entry slot_wd_get type_list_len' entry_wd_get (wd_get_len L0 L1 ⟨_,rfl,hq⟩) (args_wd_get _ _ _)⟩,by decide⟩
theorem sup_init:SupId prog w x C "__init__" "list.__init__" "wrapper_descriptor" "method-wrapper" :=
 ⟨own_list_init,type_list_init',⟨_,slot_wd_get.lookup,fun A E h g d t os Q L0 L1 hq=>wpAny_call_entry slot_wd_get type_list_init' entry_wd_get (wd_get_init L0 L1 ⟨_,rfl,hq⟩) (args_wd_get _ _ _)⟩,by decide⟩
theorem super_ga {so:Addr} {name:Str} {id T BT:String} {tk:Tok} {Q:Fin→Shared→Prop} (U:SupId prog w x C name id T BT)
  (hso:h.get? so=some { cls:=.type "super",dict:=none,data:=.fields #[.ref C,.ref x,.ref C],slots:=#[] }) (hno:Looks (model prog w) h (opaqueClassAbove (.ref C)) none)
  (hC:Looks (model prog w) h (mroOf (.ref C)) [.ref C,.type "list",.type "object"]) (L0:Looks (model prog w) h (typeOf (.ref x)) (.ref C)) (L1:Looks (model prog w) h (isSubtype (.ref C) (.type "list")) true) (hxC:x≠C)
  (hq:Q (.done (.ret (.ref h.objs.size))) ⟨h.push (boundOf BT id x),g,d,t,os⟩) :
  wpAny (model prog w) A (Builtin.«super.__getattribute__» ⟨[.ref so,.str name tk],[]⟩) Q E ⟨h,g,d,t,os⟩:=by
 have hne:(Value.ref x == Value.ref C)=false:=by simp [hxC]
 have hl:(([.ref C,.type "list",.type "object"]:List Value).dropWhile (· != .ref C)).drop 1=[.type "list",.type "object"]:=by simp [List.dropWhile]
 obtain ⟨gid,hg1,hg2⟩:=U.get
 have hn:=U.nm
 have hown:=U.own
 have hty:=U.ty
 have hdt:({ cls:=.type "super",dict:=none,data:=.fields #[.ref C,.ref x,.ref C],slots:=#[] }:Obj).data=.fields #[.ref C,.ref x,.ref C]:=rfl
 have f0:(#[.ref C,.ref x,.ref C]:Array Value)[0]?=some (.ref C):=rfl
 have f1:(#[.ref C,.ref x,.ref C]:Array Value)[1]?=some (.ref x):=rfl
 have f2:(#[.ref C,.ref x,.ref C]:Array Value)[2]?=some (.ref C):=rfl
 unfold Builtin.«super.__getattribute__»
 repeat (first
  | (with_reducible refine wpAny_field hso hdt f0 ?_) | (with_reducible refine wpAny_field hso hdt f1 ?_) | (with_reducible refine wpAny_field hso hdt f2 ?_)
  | (with_reducible refine ks_wpAny_notOpaque hno ?_)
  | (with_reducible refine Looks.at hC ?_; rw [hl])
  | (with_reducible refine wpAny_of_eq hown ?_) | (with_reducible refine wpAny_of_eq hty ?_) | (with_reducible refine wpAny_of_eq hg1 ?_)
  | (with_reducible refine hg2 _ _ _ _ _ _ _ _ L0 L1 ?_)
  | (simp only [hn,hne,Bool.or_false,Bool.false_eq_true,if_false])
  | (rw [List.forIn_cons])
  | wp_step
  | dsimp only)
 all_goals exact hq
theorem super_method {so:Addr} {name:Str} {id T BT:String} {pl:Sem Bool} {Q:Value × List Value→Shared→Prop} (U:SupId prog w x C name id T BT)
  (hso:h.get? so=some { cls:=.type "super",dict:=none,data:=.fields #[.ref C,.ref x,.ref C],slots:=#[] }) (hno:Looks (model prog w) h (opaqueClassAbove (.ref C)) none)
  (hC:Looks (model prog w) h (mroOf (.ref C)) [.ref C,.type "list",.type "object"]) (L0:Looks (model prog w) h (typeOf (.ref x)) (.ref C)) (L1:Looks (model prog w) h (isSubtype (.ref C) (.type "list")) true) (hxC:x≠C)
  (hq:Q (.ref h.objs.size,[]) ⟨h.push (boundOf BT id x),g,d,t + 1,os⟩):wpAny (model prog w) A (getMethod (.ref so) name pl) Q E ⟨h,g,d,t,os⟩:=by
 have hlk:=PySem.F.ks_slot_super_ga.lookup
 have hcan:=PySem.F.ks_canon_super_ga
 have hT:∀ t',(⟨h,g,d,t',os⟩:Shared).TypeIs (.ref so) "super":=fun _=>⟨_,hso,rfl⟩
 unfold getMethod
 refine wpAny_bind (wpAny_specialOf (hT _) hlk ?_)
 show wpAny _ _ (if (Manifest.canonical "super.__getattribute__" != "object.__getattribute__")=true then _ else _) _ _ _
 rw [if_pos hcan]
 unfold getAttr getAttrBy
 refine wpAny_bind (wpAny_bind (wpAny_mkText (wpAny_holding (wpAny_bind (wpAny_typeOf (hT _) (wpAny_bind (wpAny_of_eq hlk ?_)))))))
 show wpAny _ _ (getAttrByItsOwn (.ref so) (.str name t) (.type "super") (.builtin "super.__getattribute__") true false) _ _ _
 unfold getAttrByItsOwn hookBefore callGetattribute boundAndCalled
 refine wpAny_bind (wpAny_of_eq (show (if onTheHeap (.type "super") then typeLookup (.type "super") "__getattr__" else pure none)=pure none from rfl) ?_)
 refine wpAny_bind (wpAny_attempt (wpAny_holding ?_))
 show wpAny _ _ (bindSpecial (.builtin "super.__getattribute__") (.ref so)>>=_) _ _ _
 refine wpAny_bind (wpAny_of_eq (PySem.F.ks_slot_super_ga.bind _) ?_)
 refine wpAny_mono (Q:=fun v s'=>v=.ref h.objs.size∧s'=⟨h.push (boundOf BT id x),g,d,t + 1,os⟩) (E:=fun _ _=>False)
  (wpAny_call_entry PySem.F.ks_slot_super_ga (hT _) PySem.F.ks_entry_super_ga (super_ga U hso hno hC L0 L1 hxC ⟨_,rfl,rfl,rfl⟩) (PySem.F.ks_gaArgs_super _ _)) (fun v s' hv=>?_) fun _ _ z=>z.elim
 obtain ⟨rfl,rfl⟩:=hv
 exact wpAny_pure (wpAny_pure hq)
theorem check_bound_pop {cd:ClassData} {oc:Obj} {ox:Obj} {Q:Unit→Shared→Prop} (hx:h.get? x=some ox) (hcl:ox.cls=.ref C) (hnc:notCls ox=true) (L0:Looks (model prog w) h (typeOf (.ref x)) (.ref C)) (L2:Looks (model prog w) h (isSubtype (.ref C) (.type "module")) false) (Lc:Looks (model prog w) h (classData C) cd) (Lt:Looks (model prog w) h (typeOf (.ref C)) (.type "type"))
  (hq:Q () ⟨h,g,d,t,os⟩):wpAny (model prog w) A (checkBoundCall "list.pop" ⟨[.ref x],[]⟩) Q E ⟨h,g,d,t,os⟩:=by
 have hnc':∀ c,ox.data≠.cls c:=fun c q=>by unfold notCls at hnc; rw [q] at hnc; cases hnc
 unfold checkBoundCall
 repeat (any_goals (first | assumption | (with_reducible refine Looks.at L0 ?_) | (with_reducible refine Looks.at L2 ?_) | (with_reducible refine Looks.at Lc ?_) | (with_reducible refine Looks.at Lt ?_) | (with_reducible refine ks_wpAny_isType_inst hx hnc' ?_) | wp_step))
 split
 all_goals repeat (any_goals (first | assumption | (with_reducible refine Looks.at Lc ?_) | wp_step | rw [hcl]))
theorem check_bound_len {Q:Unit→Shared→Prop} (hq:Q () ⟨h,g,d,t,os⟩):wpAny (model prog w) A (checkBoundCall "list.__len__" ⟨[.ref x],[]⟩) Q E ⟨h,g,d,t,os⟩:=by
 unfold checkBoundCall
 repeat (any_goals (first | assumption | wp_step))
theorem check_bound_init {Q:Unit→Shared→Prop} (hq:Q () ⟨h,g,d,t,os⟩):wpAny (model prog w) A (checkBoundCall "list.__init__" ⟨[.ref x],[]⟩) Q E ⟨h,g,d,t,os⟩:=by
 unfold checkBoundCall
 repeat (any_goals (first | assumption | wp_step))
end
end Mine
end SM30
section SM31
open PySem PySem.Calls PyProof.Rows PySem.W PySem.Builtin PySem.Builtin.ObjectAttr
namespace Mine
def makesLst (K:Frag) (C:Addr):Bool:=match K.lookup C with
 | some ⟨_,_,.cls cd,sl⟩=>!cd.abstract && !cd.hasDel && (sl.toList[4]?).join == some (.builtin "list.__new__") && !cd.mro.isEmpty && cd.mro.contains (.ref C) && cd.mro.contains (.type "list") &&
   specialIn K (.ref C) "__call__" == some (some (.builtin "type.__call__")) && instIn K (.ref C) (.type "type") == some true
 | _=>false
structure MakesL (M:Model) (h:Heap) (C:Addr):Prop where
 obj:∃ oc od cd sl,h.get? C=some ⟨oc,od,.cls cd,sl⟩∧cd.abstract=false∧cd.hasDel=false∧cd.mro.isEmpty=false
 made:Looks M h (Bind.madeBy (.ref C)) (some "list.__new__")
 base:Looks M h (Bind.staticBase (.ref C)) (.ref C)
 self:Looks M h (isSubtype (.ref C) (.ref C)) true
 top:Looks M h (isSubtype (.ref C) (.type "list")) true
 call:Looks M h (specialOf (.ref C) "__call__") (some (.builtin "type.__call__"))
 typ:Looks M h (isInstance (.ref C) (.type "type")) true
theorem makesL_of {K:Frag} {M:Model} {h:Heap} (X:K.In h) {C:Addr} (e:makesLst K C=true):MakesL M h C:=by
 unfold makesLst at e
 split at e
 ·rename_i oc od cd sl ho
  simp only [Bool.and_eq_true,Bool.not_eq_true',beq_iff_eq] at e
  obtain ⟨⟨⟨⟨⟨⟨⟨e1,e2⟩,e3⟩,e4⟩,e5⟩,e6⟩,e7⟩,e8⟩:=e
  have hc:clsIn K C=some cd:=by unfold clsIn; rw [ho]
  have hm:Looks M h (mroOf (.ref C)) cd.mro:=(looks_clsIn X hc).andThen .now
  obtain ⟨c,l,hl⟩:∃ c l,cd.mro=c :: l:=by cases q:cd.mro with | nil=>rw [q] at e4; cases e4 | cons c l=>exact ⟨c,l,rfl⟩
  have made:Looks M h (Bind.madeBy (.ref C)) (some "list.__new__"):=by
   intro A Q E s k q
   unfold Bind.madeBy
   refine wpAny_bind (hm A _ E s k ?_)
   rw [hl,List.forIn_cons]
   refine wpAny_bind (wpAny_bind (wpAny_bind (wpAny_bind (wpAny_loadPart (k _ _ (X _ _ ho)) (wpAny_pure ?_)))))
   dsimp only
   rw [← Array.getElem?_toList,e3]
   exact wpAny_pure (wpAny_pure (wpAny_pure q))
  refine ⟨⟨oc,od,cd,sl,X _ _ ho,e1,e2,e4⟩,made,?_,looks_mroIn X ?_,looks_mroIn X ?_,looks_specialIn X e7,looks_instIn X e8⟩
  ·intro A Q E s k q
   unfold Bind.staticBase
   refine wpAny_bind (hm A _ E s k ?_)
   rw [hl,List.forIn_cons]
   exact wpAny_bind (wpAny_bind (wpAny_bind (made A _ E s k (wpAny_pure (wpAny_pure (wpAny_pure q))))))
  ·unfold mroIn; rw [hc,Option.bind_some,if_neg (by rw [e4]; decide),e5]
  ·unfold mroIn; rw [hc,Option.bind_some,if_neg (by rw [e4]; decide),e6]
 ·cases e
abbrev instLst (C dx:Addr):Obj:={ cls:=.ref C,dict:=some dx,data:=.seq #[] }
theorem kind_ln:builtinKind "list.__new__" = some .builtinFn:=by decide +kernel
theorem split_ln:splitId "list.__new__" = some ("list","__new__"):=by decide +kernel
theorem row_ln:Manifest.signature? "list.__new__" = some ⟨.any,"list","list",.cls,[⟨"args",.varPos,false⟩,⟨"kwargs",.varKw,false⟩]⟩:=by kernel_rfl
section
variable {prog:Program} {w:World} {A:Around} {K:Frag} {C:Addr} {R:Result→Shared→Prop} {h:Heap} {g:Array GenState} {d:Drawn} {t:Nat} {os:OsState}
theorem new_L {a:Value} (Y:MakesL (model prog w) h C) (hq:R (.ok (.ret (.ref (h.objs.size + 1)))) ⟨(h.push emptyDict).push (instLst C h.objs.size),g,d,t,os⟩) :
  codeAny (model prog w) A (.call (.builtin "list.__new__") ⟨[.ref C,a],[]⟩) R ⟨h,g,d,t,os⟩:=by
 obtain ⟨⟨oc,od,cd,sl,hC,e1,e2,e4⟩,made,base,self,top,call,typ⟩:=Y
 refine codeAny_call_builtin_code (Code.quiet_builtin _ (by decide +kernel)) ?_
 have args:Bind.checkArgs "list.__new__" ⟨.any,"list","list",.cls,[⟨"args",.varPos,false⟩,⟨"kwargs",.varKw,false⟩]⟩ ⟨[.ref C,a],[]⟩=pure ():=by kernel_rfl
 simp only [checkBuiltinCall,kind_ln,split_ln,row_ln]
 rw [args]
 repeat (first | simp only [bne_self_eq_false,Bool.false_eq_true,if_false] | lk)
 refine codeAny_builtin_stack PySem.F.entry_list_new rfl fun p st=>?_
 have hown:=owner_list_new
 simp only [hown]
 repeat (first | simp only [Bool.not_true,Bool.false_eq_true,if_false] | lk)
 refine nd_load (Heap.get?_push_of_some _ (Heap.get?_push_of_some _ hC)) (wpAny_pure ?_)
 dsimp only
 rw [e2]
 refine wpAny_pure ?_
 rw [if_neg (by decide)]
 refine wpAny_pure (wpAny_pure ?_)
 show R _ _
 rw [Heap.size_push]
 exact hq
theorem make_L {a:Value} {init:Value} (Y:MakesL (model prog w) h C) (hi:Looks (model prog w) h (typeLookup (.ref C) "__init__") (some init))
  (hb:∀ self,Looks (model prog w) h (bindSpecial init self) (init,[self]))
  (hq:codeAny (model prog w) (A.under (.builtin "type.__call__" ⟨[.ref C,a],[]⟩)) (.call init ⟨[.ref (h.objs.size + 1),a],[]⟩) (InitBack (h.objs.size + 1) R) ⟨(h.push emptyDict).push (instLst C h.objs.size),g,d,t,os⟩) :
  codeAny (model prog w) A (.call (.ref C) ⟨[a],[]⟩) R ⟨h,g,d,t,os⟩:=by
 have Y':=Y
 obtain ⟨⟨oc,od,cd,sl,hC,e1,e2,e4⟩,made,base,self,top,call,typ⟩:=Y
 refine codeAny_of_tree ?_
 show wpAny _ _ (callAny (.ref C) _) _ _ _
 refine nd_load hC ?_
 show wpAny _ _ (callAny.viaDunder (.ref C) _) _ _ _
 unfold callAny.viaDunder
 refine wpAny_bind (call.at ?_)
 dsimp only
 rw [tc_bind]
 refine wpAny_bind (wpAny_pure (wpAny_bind (wpAny_pure ?_)))
 refine wpAny_pure (a:=Fin.again (.call (.builtin "type.__call__") ⟨[.ref C,a],[]⟩)) (And.intro rfl ?_)
 refine codeAny_call_builtin_at (Code.quiet_builtin _ (by decide +kernel)) entry_typeCall (check_slot tc_kind tc_split typ (tc_args _ _ _) ?_)
 unfold Builtin.«type.__call__»
 have hm:Looks (model prog w) h (mroOf (.ref C)) cd.mro:=((Looks.ld (part:=none) hC).andThen .now).andThen .now
 repeat (first | simp only [e4,Bool.false_eq_true,if_false] | with_reducible refine wpAny_call ?_ | lk)
 refine new_L Y' ?_
 have k:∀ b o,h.get? b=some o→((h.push emptyDict).push (instLst C h.objs.size)).get? b=some o:=fun b o e=>Heap.get?_push_of_some _ (Heap.get?_push_of_some _ e)
 have hx:((h.push emptyDict).push (instLst C h.objs.size)).get? (h.objs.size + 1)=some (instLst C h.objs.size):=by heap_get
 have t1:Looks (model prog w) ((h.push emptyDict).push (instLst C h.objs.size)) (typeOf (.ref (h.objs.size + 1))) (.ref C):=(Looks.ld hx).andThen .now
 have s1:=self.keeps k
 have i1:=hi.keeps k
 have b1:=(hb (.ref (h.objs.size + 1))).keeps k
 unfold isInstance callSpecial? specialOf
 repeat (first | with_reducible refine wpAny_call ?_ | lk)
 refine codeAny_mono hq fun r s' z=>?_
 rcases r with e | (v | _ | _ | _) <;> first | exact z | exact z.elim | skip
 obtain ⟨rfl,z⟩:=z
 exact wpAny_pure (wpAny_pure z)
end
section
variable {g:Gl} {A:Around} {F:Fm} {σ:AS} {s:Shared} {K:Frag} {P:PV→AS→Prop}
theorem Sat.newInst (S:Sat g F σ s) (C:Addr) (body:Option (List PV)) (o:Obj) (ho:o={ cls:=.ref C,dict:=some s.heap.objs.size,data:=match body with | none=>.plain | some _=>.seq #[] }) (hb:body=none∨body=some []) :
  Sat g F ⟨σ.loc,(s.heap.objs.size + 1,.inst s.heap.objs.size C [] body) :: σ.zone⟩ { s with heap:=(s.heap.push emptyDict).push o }∧Stp [] σ.own s (AS.own ⟨σ.loc,(s.heap.objs.size + 1,.inst s.heap.objs.size C [] body) :: σ.zone⟩) { s with heap:=(s.heap.push emptyDict).push o }:=by
 have kk:∀ b o',s.heap.get? b=some o'→((s.heap.push emptyDict).push o).get? b=some o':=fun b o' e=>Heap.get?_push_of_some _ (Heap.get?_push_of_some _ e)
 have hown:AS.own ⟨σ.loc,(s.heap.objs.size + 1,.inst s.heap.objs.size C [] body) :: σ.zone⟩=(s.heap.objs.size + 1) :: s.heap.objs.size :: σ.own:=rfl
 have kp:Kp s.heap ((s.heap.push emptyDict).push o) σ.own ((s.heap.objs.size + 1) :: s.heap.objs.size :: σ.own):=fun b o xs n e _ no=>⟨kk b o e,fun q=>by
  have hlt:=Heap.lt_size e
  rcases List.mem_cons.mp q with rfl | q
  ·exact Nat.lt_irrefl _ (Nat.lt_trans (Nat.lt_succ_self _) hlt)
  ·rcases List.mem_cons.mp q with rfl | q
   ·exact Nat.lt_irrefl _ hlt
   ·exact no q⟩
 have S₁:=S.keeps (h':=(s.heap.push emptyDict).push o) (tk:=s.toks) kk
 have hx:((s.heap.push emptyDict).push o).get? (s.heap.objs.size + 1)=some o:=by
  have:=Heap.get?_push_size (s.heap.push emptyDict) (o:=o) (by rw [ho]; cases body <;> rfl)
  rwa [Heap.size_push] at this
 have hd:((s.heap.push emptyDict).push o).get? s.heap.objs.size=some emptyDict:=Heap.get?_push_of_some _ (Heap.get?_push_size _ rfl)
 refine ⟨⟨S₁.old,S₁.lim,S.os,S.bare,?_,fun a ha=>?_,fun z hz'=>?_,S₁.fr,S₁.ns,S.nin,fun x p e=>?_,S.cs,S₁.cl⟩,⟨fun b o e _ _ _=>kk b o e,fun b o e=>⟨o,kk b o e⟩,fun a ha=>?_,fun _ _ e=>e⟩⟩
 ·rw [hown]
  obtain ⟨n1,n2,n3⟩:=List.nodup_append.mp S.nd
  refine List.nodup_append.mpr ⟨n1,List.nodup_cons.mpr ⟨fun q=>?_,List.nodup_cons.mpr ⟨fun q=>Nat.lt_irrefl _ (S.own_lt q),n2⟩⟩,fun a ha b hb q=>?_⟩
  ·rcases List.mem_cons.mp q with q | q
   ·exact Nat.succ_ne_self _ q
   ·exact Nat.lt_irrefl _ (Nat.lt_trans (Nat.lt_succ_self _) (S.own_lt q))
  ·subst q
   have hlt:=S.fr_lt ha
   rcases List.mem_cons.mp hb with rfl | hb
   ·exact Nat.lt_irrefl _ (Nat.lt_trans (Nat.lt_succ_self _) hlt)
   ·rcases List.mem_cons.mp hb with rfl | hb
    ·exact Nat.lt_irrefl _ hlt
    ·exact n3 a ha a hb rfl
 ·rw [hown] at ha
  rcases List.mem_append.mp ha with h | h
  ·exact S.lo a (List.mem_append_left _ h)
  ·rcases List.mem_cons.mp h with rfl | h
   ·exact Nat.le_succ_of_le S.base_le
   ·rcases List.mem_cons.mp h with rfl | h
    ·exact S.base_le
    ·exact S.lo a (List.mem_append_right _ h)
 ·rw [hown]
  rcases List.mem_cons.mp hz' with rfl | hz'
  ·rcases hb with rfl | rfl
   ·exact ⟨_,#[],0,by rw [hx,ho],rfl,hd,.nil⟩
   ·exact ⟨_,#[],0,by rw [hx,ho],⟨#[],0,rfl,.nil⟩,hd,.nil⟩
  ·exact (S.zs z hz').mono kp fun b _ o e=>kk b o e
 ·rw [hown]
  obtain ⟨v,h1,h2⟩:=S.loc x p e
  exact ⟨v,h1.ext fun b o e _=>kk b o e,h2.mono kp⟩
 ·rw [hown] at ha
  rcases List.mem_cons.mp ha with rfl | ha
  ·refine .inr ?_
   cases q:s.heap.get? (s.heap.objs.size + 1) with
   | none=>rfl
   | some o'=>exact absurd (Nat.lt_trans (Nat.lt_succ_self _) (Heap.lt_size q)) (Nat.lt_irrefl _)
  ·rcases List.mem_cons.mp ha with rfl | ha
   ·exact .inr (get?_size _)
   ·exact .inl ha
theorem Rm.under {A:Around} {n:Nat} {C:Addr} {vals:List Value} {kw:List (Str × Value)} (h:Rm A (n + 1)):Rm (A.under (.builtin "type.__call__" ⟨.ref C :: vals,kw⟩)) n:=by
 refine ⟨h.handled,?_,?_⟩
 ·have:=h.depth
  have e:(A.under (.builtin "type.__call__" ⟨.ref C :: vals,kw⟩)).depth=A.depth + 1:=rfl
  rw [e]; omega
 ·have:=h.units
  have e:(A.under (.builtin "type.__call__" ⟨.ref C :: vals,kw⟩)).units=A.units + 1:=rfl
  rw [e]; omega
theorem CL_new {C fI:Addr} {ps:List PV} {n:Nat} (hr:Rm A (n + 1)) (hK:Fg g K) (hm:makesIn K C=true) (hi:findIn K (.ref C) "__init__" = some (some (.ref fI))) (ht:typeIn K (.ref fI)=some (.type "function"))
  (h:∀ A' x dx,Rm A' n→CLC g A' F (.ref fI) (.raw (.ref x) :: ps) ⟨σ.loc,(x,.inst dx C [] none) :: σ.zone⟩ fun p σ'=>p=.raw .none∧P (.raw (.ref x)) σ'):CL g A F (.ref C) ps σ P:=by
 intro s vs S hvs Q E k
 obtain ⟨S₂,st₂⟩:=S.newInst C none _ rfl (.inl rfl)
 have X:=hK.now S
 refine wpAny_call ?_
 obtain ⟨hh,gg,d,t,os⟩:=s
 refine make_core (makes_of X hm) (looks_findIn X hi) (fun self=>bind_fn X self ht) (.inl rfl) ?_
 have hvs':VRs _ (AS.own ⟨σ.loc,(hh.objs.size + 1,.inst hh.objs.size C [] none) :: σ.zone⟩) ps vs:=hvs.mono (S.kp st₂)
 refine h _ _ _ (Rm.under hr) _ (.ref (hh.objs.size + 1) :: vs) S₂ (.cons (.raw _) hvs') _ fun a b σ' s' hb S' hv st=>?_
 obtain ⟨rfl,hP⟩:=hb
 cases hv
 exact ⟨rfl,k _ _ σ' s' hP S' (.raw _) (st₂.trans st)⟩
theorem CL_newL {C fI:Addr} {p:PV} {n:Nat} (hr:Rm A (n + 1)) (hK:Fg g K) (hm:makesLst K C=true) (hi:findIn K (.ref C) "__init__" = some (some (.ref fI))) (ht:typeIn K (.ref fI)=some (.type "function"))
  (h:∀ A' x dx,Rm A' n→CLC g A' F (.ref fI) [.raw (.ref x),p] ⟨σ.loc,(x,.inst dx C [] (some [])) :: σ.zone⟩ fun q σ'=>q=.raw .none∧P (.raw (.ref x)) σ'):CL g A F (.ref C) [p] σ P:=by
 intro s vs S hvs Q E k
 obtain ⟨S₂,st₂⟩:=S.newInst C (some []) _ rfl (.inr rfl)
 have X:=hK.now S
 cases hvs with
 | cons hv hs =>
  cases hs
  rename_i v
  refine wpAny_call ?_
  obtain ⟨hh,gg,d,t,os⟩:=s
  refine make_L (makesL_of X hm) (looks_findIn X hi) (fun self=>bind_fn X self ht) ?_
  have hv':VR _ (AS.own ⟨σ.loc,(hh.objs.size + 1,.inst hh.objs.size C [] (some [])) :: σ.zone⟩) p v:=hv.mono (S.kp st₂)
  refine h _ _ _ (Rm.under hr) _ [.ref (hh.objs.size + 1),v] S₂ (.cons (.raw _) (.cons hv' .nil)) _ fun a b σ' s' hb S' hv st=>?_
  obtain ⟨rfl,hP⟩:=hb
  cases hv
  exact ⟨rfl,k _ _ σ' s' hP S' (.raw _) (st₂.trans st)⟩
theorem callWith_clsM {M:Model} {A:Around} {s:Shared} {pos:Pos} {C:Addr} {first:List Value} {args:List (Bool × Sem Value)} {Q:Value→Shared→Prop} {E:Value→Shared→Prop} (hplain:args.any (·.1)=false)
  (h:wpAny M A (evalArgs (.ref C) true args []) (fun x s₁=>(∃ oc od cd sl,s₁.heap.get? C=some ⟨oc,od,.cls cd,sl⟩)∧Looks M s₁.heap (specialOf (.ref C) "__call__") (some (.builtin "type.__call__"))∧wpAny M A (call (.ref C) (first++x.pos) x.kw) Q E s₁) E s):wpAny M A (callWith pos (.ref C) first args []) Q E s:=by
 unfold callWith
 refine wpAny_bind (wpAny_holding (wpAny_mono h (fun x s₁ h₁=>wpAny_bind (wpAny_standAt ?_)) fun _ _ x=>x))
 obtain ⟨⟨oc,od,cd,sl,ho⟩,hL,hcall⟩:=h₁
 simp only [hplain,List.any_nil,Bool.or_false]
 refine wpAny_bind (m:=keeperOf (.ref C)) ?_
 unfold keeperOf
 refine wpAny_bind (wpAny_load ho ?_)
 dsimp only
 refine wpAny_bind (hL.here ?_)
 rw [if_pos (by decide)]
 refine wpAny_pure ?_
 exact wpAny_bind (wpAny_mono hcall (fun r s₂ hr=>wpAny_bind (wpAny_holding (wpAny_point (wpAny_pure hr)))) fun _ _ x=>x)
def clsCalls (K:Frag) (C:Addr):Bool:=(clsIn K C).isSome && specialIn K (.ref C) "__call__" == some (some (.builtin "type.__call__"))
theorem EV_Call_cls {func:Expr} {args:List Expr} {pos:Pos} {C:Addr} (hK:Fg g K) (hC:clsCalls K C=true)
  (h:EV g A F func σ fun p σ₁=>p=.raw (.ref C)∧EVs g A F args σ₁ fun ps σ₂=>CL g A F (.ref C) ps σ₂ P)
  (he:eval (.Call func args [] pos) F.env=(do callWith pos (← eval func F.env) [] (backTo pos (starEach args F.env)) (backToKw pos (keywordEach [] F.env))):=by with_unfolding_all rfl)
  (hns:(backTo pos (starEach args F.env)).any (·.1)=false:=by with_unfolding_all rfl):EV g A F (.Call func args [] pos) σ P:=by
 intro s S Q E k
 refine Call_ (h s S _ E fun v p σ₁ s₁ h₁ S₁ hv st₁=>?_) he
 obtain ⟨rfl,h₁⟩:=h₁
 cases hv
 refine callWith_clsM hns (evalArgs_EVs h₁ hns S₁ fun vs ps σ₂ s₂ h₂ S₂ hvs st₂=>?_)
 have X:=hK.now S₂
 unfold clsCalls at hC
 simp only [Bool.and_eq_true,beq_iff_eq] at hC
 refine ⟨?_,looks_specialIn X hC.2,h₂ s₂ vs S₂ hvs Q E fun a b σ' s' h' S' hr st'=>k a b σ' s' h' S' hr (st₁.trans (st₂.trans st'))⟩
 obtain ⟨cd,hcd⟩:=Option.isSome_iff_exists.mp hC.1
 unfold clsIn at hcd
 split at hcd
 ·rename_i ho; exact ⟨_,_,_,_,X _ _ ho⟩
 ·cases hcd
end
end Mine
end SM31
section SM32
open PySem PySem.Calls PyProof.Rows PySem.W PySem.Builtin PySem.Builtin.ObjectAttr
namespace Mine
abbrev JAt {α β:Type} (g:Gl) (A:Around) (c:Code) (F:Fm) (fr:List Addr) (R:Heap→List Addr→β→α→Prop) (t:Sem α) (σ:AS) (P:β→AS→Prop):Prop :=
 ∀ s,Sat g F σ s→∀ (Q:α→Shared→Prop) (E:Value→Shared→Prop),
  (∀ a b σ' s',P b σ'→Sat g F σ' s'→R s'.heap σ'.own b a→Stp fr σ.own s σ'.own s'→Q a s')→PySem.wpAt (model g.prog g.w) A c t Q E s
abbrev EVAt (g:Gl) (A:Around) (c:Code) (F:Fm) (e:Expr) (σ:AS) (P:PV→AS→Prop):Prop:=JAt g A c F [] VR (eval e F.env) σ P
abbrev EXsAt (g:Gl) (A:Around) (c:Code) (F:Fm) (sts:List Stmt) (σ:AS) (P:Fl→AS→Prop):Prop:=JAt g A c F F.fr FlR (execs sts F.env) σ P
section
variable {g:Gl} {A:Around} {c:Code} {F:Fm} {σ:AS} {s:Shared} {K:Frag}
theorem JAt.of {α β:Type} {fr:List Addr} {R:Heap→List Addr→β→α→Prop} {t:Sem α} {P:β→AS→Prop} (h:J g A F fr R t σ P):JAt g A c F fr R t σ P:=fun s S Q E k=>PySem.wpAt_of_wpAny (h s S Q E k)
theorem EXsAt_cons {st:Stmt} {rest:List Stmt} {P:Fl→AS→Prop} (h:EX g A F st σ fun fl σ₁=>match fl with | .next=>EXsAt g A c F rest σ₁ P | fl=>P fl σ₁):EXsAt g A c F (st :: rest) σ P:=by
 intro s S Q E k
 refine ks_wpAt_execs_cons (PySem.wpAt_of_wpAny (h s S _ E fun f fl σ₁ s₁ h₁ S₁ hr st₁=>?_))
 cases hr with
 | next=>exact h₁ s₁ S₁ Q E fun f fl σ₂ s₂ h₂ S₂ hr st₂=>k f fl σ₂ s₂ h₂ S₂ hr (st₁.trans st₂)
 | brk=>exact k _ _ σ₁ s₁ h₁ S₁ .brk st₁
 | cont=>exact k _ _ σ₁ s₁ h₁ S₁ .cont st₁
 | ret hv=>exact k _ _ σ₁ s₁ h₁ S₁ (.ret hv) st₁
theorem EXsAt_ret {e:Expr} {pos:Pos} {rest:List Stmt} {P:Fl→AS→Prop} (h:EVAt g A c F e σ fun p σ₁=>P (.ret p) σ₁):EXsAt g A c F (.Return (some e) pos :: rest) σ P:=by
 intro s S Q E k
 refine ks_wpAt_execs_cons (ks_wpAt_Return_some (h s S _ E fun v p σ₁ s₁ h₁ S₁ hv st₁=>?_))
 exact k _ _ σ₁ s₁ h₁ S₁ (.ret hv) st₁.up
theorem EXsAt_expr {e:Expr} {pos:Pos} {P:Fl→AS→Prop} (h:EVAt g A c F e σ fun p σ₁=>P .next σ₁) (hi:interactive F.env=false:=by with_unfolding_all rfl) (hs:swapsWith e none pos.line F.env=pure false:=by with_unfolding_all rfl):EXsAt g A c F [.Expr e pos] σ P:=by
 intro s S Q E k
 refine ks_wpAt_execs_cons (ks_wpAt_Expr_any (h s S _ E fun v p σ₁ s₁ h₁ S₁ hv st₁=>?_) hi hs)
 exact PySem.wpAt_of_wpAny (wpAny_execs_nil (k _ _ σ₁ s₁ h₁ S₁ .next st₁.up))
structure ClsCell (g:Gl) (fd:FuncData) (C:Addr):Prop where
 ex:∃ cc o,fd.closure.lookup ("__class__":Str)=some cc∧g.h₁.get? cc=some o∧o.cls≠.none∧o.data=.cell (some (.ref C))
structure SupOk (g:Gl) (fd:FuncData):Prop where
 hks:fd.scope.names.lookup ("super":Str)=some .globalImplicit
 hkc:fd.scope.names.lookup ("__class__":Str)=some .free
 hp:∃ ar,(fd.params.posonlyargs++fd.params.args).head?=some ar∧ar.arg = "self"
 code:∃ cc oc vs file tf,fd.code=.ref cc∧g.h₁.get? cc=some oc∧oc.cls≠.none∧oc.data=.fields vs∧vs[2]?=some (.str file tf)∧((g.prog.main.file:Str) == file)=true
 htop:(g.prog.main.scope.names.lookup ("super":Str)).isSome=false
 bl:g.Blt "super" (.type "super")
theorem wpAny_callWith_none {M:Model} {E:Value→Shared→Prop} {s:Shared} {pos:Pos} {u:Addr} {ob:Obj} {vs:Array Value} {env:Env} {Q:Value→Shared→Prop} (hd:ob.data=.fields vs) (hc:(ob.cls == .type "builtin_function_or_method" || ob.cls == .type "method-wrapper")=true) (hm:(ob.cls != .type "method")=true)
  (ho:s.heap.get? u=some ob) (h:wpAny M A (call (.ref u) []) Q E s):wpAny M A (callWith pos (.ref u) [] (backTo pos (starEach [] env)) []) Q E s:=by
 unfold callWith
 refine wpAny_bind (wpAny_holding (evalArgs_nil3 (wpAny_bind (wpAny_standAt ?_))))
 refine wpAny_bind (m:=keeperOf (.ref u)) ?_
 unfold keeperOf
 refine wpAny_bind (wpAny_load ho ?_)
 simp only [hd,hc,hm,if_true]
 refine wpAny_pure ?_
 exact wpAny_bind (wpAny_mono h (fun r s₂ hr=>wpAny_bind (wpAny_holding (wpAny_point (wpAny_pure hr)))) fun _ _ x=>x)
def SupRun (g:Gl) (A:Around) (F:Fm) (id:String) (x:Addr) (σ:AS) (P:PV→AS→Prop):Prop :=
 ∀ s,Sat g F σ s→∀ (R:Result→Shared→Prop),(∀ a b σ' s',P b σ'→Sat g F σ' s'→VR s'.heap σ'.own b a→Stp [] σ.own s σ'.own s'→R (.ok (.ret a)) s') →
  codeAny (model g.prog g.w) A (.builtin id ⟨[.ref x],[]⟩) R s
def SupChk (g:Gl) (F:Fm) (id:String) (x:Addr) (σ:AS):Prop:=∀ (A:Around) s,Sat g F σ s→∀ (Q:Unit→Shared→Prop) (E:Value→Shared→Prop),Q () s→wpAny (model g.prog g.w) A (checkBoundCall id ⟨[.ref x],[]⟩) Q E s
theorem EVAt_super {body:List Stmt} {fd:FuncData} {L f:Addr} {x dx C:Addr} {att:List (Str × PV)} {l:List PV} {name:Str} {id T BT:String} {p0 p1 apos pos:Pos} {pl:Sem Bool} {P:PV→AS→Prop} (hK:Fg g K) (hC:ClsLst K C) (hcls:∃ cd,clsIn K C=some cd) (hst:StOk g)
  (hf:FnAt g f fd body) (hsc:SupOk g fd) (hcc:ClsCell g fd C) (U:SupId g.prog g.w x C name id T BT) (hbt:(Value.type BT == .type "builtin_function_or_method" || Value.type BT == .type "method-wrapper")=true) (hbm:(Value.type BT != .type "method")=true) (hq:plainId id=true)
  (hz:(x,.inst dx C att (some l))∈σ.zone) (hself:σ.loc.lookup ("self":Str)=some (.raw (.ref x))) (hchk:SupChk g (fnFm fd L f) id x σ) (hrun:SupRun g A (fnFm fd L f) id x σ P)
  (he:eval (.Call (.Attribute (.Call (.Name "super" p0) [] [] p1) name apos) [] [] pos) (fnFm fd L f).env=(do
   let ov ← attributeBase (.Call (.Name "super" p0) [] [] p1) name (fnFm fd L f).env (eval (.Call (.Name "super" p0) [] [] p1) (fnFm fd L f).env)
   standAt apos.atName
   let (f',first) ← holding [ov] (getMethod ov name pl)
   callWith pos f' first (backTo pos (starEach [] (fnFm fd L f).env)) []):=by with_unfolding_all rfl) :
  EVAt g A (.func body (callEnv fd L f)) (fnFm fd L f) (.Call (.Attribute (.Call (.Name "super" p0) [] [] p1) name apos) [] [] pos) σ P:=by
 intro s S Q E k
 refine ks_wpAt_MethodCall ?_ he
 obtain ⟨ar,hp,har⟩:=hsc.hp
 obtain ⟨cc,oc,vs,file,tf,hco,hcc1,hcc2,hoc,hvs,hfile⟩:=hsc.code
 obtain ⟨o,e,hd⟩:=hf.now S
 refine ks_wpAt_super_base (f:=f) (cc:=cc) (ar:=ar) hsc.hks hsc.hkc U.nm rfl e hd hp hco (S.old.get_of_cls hcc1 hcc2) hoc hvs hfile hsc.htop ?_
 have hkf:(callEnv fd L f).scope.kind=.function:=hf.kind
 have hgl:(callEnv fd L f).globals=mainGlobals:=hf.gl
 have hbl:(callEnv fd L f).builtins=builtinsNs:=hf.bl
 have l1:∀ (Q':Value→Shared→Prop) E',Q' (.type "super") s→wpAny (model g.prog g.w) A (loadName (callEnv fd L f) "super") Q' E' s:=by
  intro Q' E' hq'
  obtain ⟨mg,om,mb,ob,n,e1,hc1,hm,nb,eb,hcb,hv⟩:=hsc.bl
  unfold loadName
  have hx:(callEnv fd L f).kindOf "super" = some .globalImplicit:=hsc.hks
  simp only [Env.blockKind,hkf,hx,ScopeKind.isAnnotationScope,Bool.false_and,Bool.false_eq_true,if_false]
  exact loadGlobal_builtin (hgl ▸ Ns_old S.old n e1 hc1) hm (hbl ▸ Ns_old S.old nb eb hcb) hv hq'
 refine l1 _ _ ⟨rfl,?_⟩
 obtain ⟨ck,ock,hck1,hck2,hck3,hck4⟩:=hcc.ex
 refine wpAny_loadName_free hkf hsc.hkc hck1 ⟨ock,S.old.get_of_cls hck2 hck3,hck4⟩ ?_ (by decide)
 obtain ⟨v₀,hn₀,hv₀⟩:=S.loc ("self":Str) _ hself
 cases hv₀
 rw [har]
 have lname:∀ (Q':Value→Shared→Prop) E',Q' (.ref x) s→wpAny (model g.prog g.w) A (loadName (callEnv fd L f) "self") Q' E' s:=by
  intro Q' E' hq'
  rcases hn₀ with ⟨e',m,n,hm⟩ | ⟨e',c₂,o₂,hcl,ho,hd'⟩
  ·exact wpAny_loadName_local hkf e' n hm hq'
  ·rcases e' with e' | e'
   ·exact wpAny_loadName_cell hkf e' hcl ⟨o₂,ho,hd'⟩ hq'
   ·exact wpAny_loadName_free hkf e' hcl ⟨o₂,ho,hd'⟩ hq' (by decide)
 refine lname _ _ ?_
 obtain ⟨cd,hcd⟩:=hcls
 have X:=hK.now S
 obtain ⟨oC,odC,slC,hCo⟩:∃ oc od sl,K.lookup C=some ⟨oc,od,.cls cd,sl⟩:=by
  unfold clsIn at hcd
  split at hcd
  ·rename_i ho; cases hcd; exact ⟨_,_,_,ho⟩
  ·cases hcd
 have hCh:=X _ _ hCo
 obtain ⟨dd,es,n,I,⟨items,m,hdd,hit⟩,r⟩:=inst_at (S.zs _ hz)
 subst hdd
 obtain ⟨hh,gg,d,t,os⟩:=s
 refine ks_wpAny_isType_cls hCh rfl ⟨rfl,?_⟩
 obtain ⟨cd',hcd',hmro⟩:=hC.mro
 have hsubC:Looks (model g.prog g.w) hh (isSubtype (.ref C) (.ref C)) true:=looks_mroIn X (by unfold mroIn; rw [hcd',Option.bind_some,hmro]; simp)
 refine ks_wpAny_call_super hCh rfl I.at_ rfl (by intro c q; cases q) hsubC fun h' hso hk=>?_
 have S₁:Sat g (fnFm fd L f) σ ⟨h',gg,d,t,os⟩:=S.keeps (h':=h') (tk:=t) hk
 have st₁:Stp [] σ.own ⟨hh,gg,d,t,os⟩ σ.own ⟨h',gg,d,t,os⟩:=Stp.keeps (h':=h') (tk:=t) hk
 have X₁:=hK.now S₁
 obtain ⟨dd₁,es₁,n₁,I₁,⟨items₁,m₁,hdd₁,hit₁⟩,r₁⟩:=inst_at (S₁.zs _ hz)
 subst hdd₁
 have L0:=I₁.type (M:=model g.prog g.w)
 have L1:Looks (model g.prog g.w) h' (isSubtype (.ref C) (.type "list")) true:=looks_mroIn X₁ (by unfold mroIn; rw [hcd',Option.bind_some,hmro]; rfl)
 have hm':Looks (model g.prog g.w) h' (mroOf (.ref C)) [.ref C,.type "list",.type "object"]:=hmro ▸ ((looks_clsIn X₁ hcd').andThen .now)
 have hxC:x≠C:=by
  intro q; subst q
  have:=I₁.at_
  rw [X₁ _ _ hCo] at this; cases this
 refine super_method U hso (looks_opaqueS S₁ hst) hm' L0 L1 hxC ?_
 have S₂:=(S₁.push (boundOf BT id x)).toks (t + 1)
 have st₂:Stp [] σ.own ⟨hh,gg,d,t,os⟩ σ.own ⟨h'.push (boundOf BT id x),gg,d,t + 1,os⟩:=st₁.trans ((Stp.push (boundOf BT id x)).trans .toks)
 have hb:(h'.push (boundOf BT id x)).get? h'.objs.size=some (boundOf BT id x):=Heap.get?_push_size _ rfl
 refine wpAny_callWith_none (ob:=boundOf BT id x) rfl hbt hbm hb ?_
 refine wpAny_call (codeAny_of_tree ?_)
 show wpAny _ A.in1 (callAny (.ref h'.objs.size) ⟨[],[]⟩) _ _ _
 unfold callAny
 refine wpAny_bind (wpAny_load hb ?_)
 have hbt2:(Value.type BT == .type "method" || Value.type BT == .type "builtin_function_or_method" || Value.type BT == .type "method-wrapper")=true:=by
  rw [Bool.or_assoc,hbt,Bool.or_true]
 dsimp only
 rw [if_pos hbt2]
 show wpAny _ _ (if (Value.type BT != .type "method")=true then _ else _) _ _ _
 rw [if_pos hbm]
 refine wpAny_bind (hchk _ _ S₂ _ _ ?_)
 refine wpAny_pure ⟨plainId_quiet hq _,?_⟩
 exact hrun _ S₂ _ fun a b σ' s' hP S' hv st=>k a b σ' s' hP S' hv (st₂.trans st)
end
end Mine
end SM32
section SM33
open PySem PySem.Calls PyProof.Rows PySem.W PySem.Builtin PySem.Builtin.ObjectAttr
namespace Mine
section
variable {g:Gl} {A:Around} {F:Fm} {σ:AS} {s:Shared} {K:Frag}
theorem CLC_fnAt {f:Addr} {fd:FuncData} {body:List Stmt} {xs:List Str} {ps:List PV} {P:PV→AS→Prop} {n:Nat} (hr:Rm A (n + 1)) (hf:FnAt g f fd body) (hx:xs.Nodup) (hlen:xs.length=ps.length)
  (hb:∀ vs:List Value,vs.length=ps.length→bindArgs fd ⟨vs,[]⟩=pure (xs.zip vs))
  (hcellB:(fd.scope.names.all fun x=>x.2 != .cell)=true) (hlocB:(xs.all fun x=>fd.scope.names.lookup x == some .local)=true)
  (h:∀ L,EXsAt g (A.deeper (callEnv fd L f)) (.func body (callEnv fd L f)) (fnFm fd L f) body ⟨xs.zip ps,σ.zone⟩ fun fl σ'=>P (match fl with | .ret p=>p | _=>.raw .none) ⟨σ.loc,σ'.zone⟩) :
  CLC g A F (.ref f) ps σ P:=by
 intro s vs S hvs R k
 have hcell:∀ x∈fd.scope.names,x.2≠.cell:=fun x hx=>by simpa using List.all_eq_true.mp hcellB x hx
 have hloc:∀ x∈xs,fd.scope.names.lookup x=some .local:=fun x hx=>by simpa using List.all_eq_true.mp hlocB x hx
 obtain ⟨o,e,hd⟩:=hf.now S
 have hlv:=hvs.length
 refine ks_codeAny_call_defAt (hr.le (Nat.zero_le _)).depth e hd S.lim (hf.codeRec S) hf.bd (.of_eq (hb vs hlv)) hcell (fun x hx'=>?_) (fun h₀ hn hk=>?_) hf.co hf.gen hf.kind
 ·exact hloc _ (List.of_mem_zip hx').1
 ·have hkeys:((xs.zip vs).map (·.1))=xs:=by
   rw [List.map_fst_zip]; omega
  have hL:s.heap.objs.size∉σ.own:=fun h=>Nat.lt_irrefl _ (S.own_lt h)
  have kp:Kp s.heap h₀ σ.own σ.own:=fun b o xs n e _ no=>⟨hk b o e,no⟩
  have S₀:Sat g (fnFm fd s.heap.objs.size f) ⟨xs.zip ps,σ.zone⟩ { s with heap:=h₀,toks:=s.toks + (xs.zip vs).length }:=by
   refine ⟨S.old.step_keeps hk,S.lim.keeps hk,S.os,S.bare,?_,fun a ha=>?_,fun z hz=>?_,fun a ha=>?_,⟨_,hn⟩,by simp [fnFm,callEnv,newEnv],fun x p ex=>?_,S.cs,fun x c hx _ _ _=>absurd rfl (hcell _ (mem_of_lookup hx))⟩
   ·show ([s.heap.objs.size]++σ.own).Nodup
    exact List.nodup_cons.mpr ⟨hL,(List.nodup_append.mp S.nd).2.1⟩
   ·rcases List.mem_append.mp ha with h | h
    ·simp [fnFm] at h; subst h; exact S.base_le
    ·exact S.lo a (List.mem_append_right _ h)
   ·have:=S.zs z hz
    obtain ⟨b,mo⟩:=z
    cases mo with
    | list l=>obtain ⟨items,n,h1,h2⟩:=this; exact ⟨items,n,hk _ _ h1,h2.mono kp⟩
    | obj ob=>exact ⟨hk _ _ this.1,this.2⟩
    | inst dx C att body =>
     obtain ⟨d,es,n,h1,h2,h3,h4⟩:=this
     refine ⟨d,es,n,hk _ _ h1,?_,hk _ _ h3,h4.mono kp⟩
     cases body with
     | none=>exact h2
     | some l=>obtain ⟨items,n',e1,e2⟩:=h2; exact ⟨items,n',e1,e2.mono kp⟩
   ·simp [fnFm] at ha; subst ha
    obtain ⟨o,es,ep,e,d,_⟩:=hn
    exact ⟨o,e,.inl ⟨es,ep,d⟩⟩
   ·obtain ⟨v,h1,h2⟩:=zip_lookup hvs ex
    refine ⟨v,.inl ⟨?_,_,hn,?_⟩,h2.mono kp⟩
    ·have hm:x∈xs:=by
      have:=List.lookup_eq_some_iff.mp h1
      obtain ⟨l1,l2,e1,_⟩:=this
      have:(x,v)∈xs.zip vs:=by rw [e1]; simp
      exact (List.of_mem_zip this).1
     show fd.scope.names.lookup x=some .local
     exact hloc x hm
    ·rw [lookup_reverse (by rw [hkeys]; exact hx)]; exact h1
  have st₀:Stp [] σ.own s σ.own { s with heap:=h₀,toks:=s.toks + (xs.zip vs).length }:=⟨fun b o e _ _ _=>hk b o e,fun b o e=>⟨o,hk b o e⟩,fun _ h=>.inl h,fun _ _ e=>e⟩
  refine h s.heap.objs.size _ S₀ _ _ fun fv fl σ' s' hP S' hr' st'=>?_
  have hne:∀ b o,s.heap.get? b=some o→b∉[s.heap.objs.size]:=fun b o e q=>by
   rw [List.mem_singleton] at q; subst q
   rw [get?_size] at e; cases e
  have stt:Stp [] σ.own s σ'.own s':=by
   refine ⟨fun b o e nf no hc=>st'.keep b o (hk b o e) (hne b o e) no hc,fun b o e=>st'.there b o (hk b o e),fun a ha=>?_,fun i x e=>st'.gens i x e⟩
   rcases st'.fresh a ha with q | q
   ·exact .inl q
   ·refine .inr ?_
    cases q':s.heap.get? a with
    | none=>rfl
    | some o=>rw [show _=_ from hk a o q'] at q; cases q
  have Sb:=S.back S' stt fun a ha o e=>by
   obtain ⟨o',e',fl⟩:=S.fr a ha
   rw [e] at e'; cases e'
   exact st'.keep a o (hk a o e) (hne a o e) (fun q=>(List.nodup_append.mp S.nd).2.2 a ha a q rfl) fl.hard
  cases hr' with
  | ret hv=>exact k _ _ ⟨σ.loc,σ'.zone⟩ s' hP Sb hv stt
  | next=>exact k _ _ ⟨σ.loc,σ'.zone⟩ s' hP Sb (.raw _) stt
  | brk=>exact k _ _ ⟨σ.loc,σ'.zone⟩ s' hP Sb (.raw _) stt
  | cont=>exact k _ _ ⟨σ.loc,σ'.zone⟩ s' hP Sb (.raw _) stt
theorem idx_last' {n:Nat} (h:n≠0):seqIndex? (-1) n=some (n - 1):=by
 rw [StrLaws.seqIndex_neg (by decide) (by omega)]
 congr 1; omega
theorem ZAt.self {D:Addr} {m:MO} {z:List (Addr × MO)} (h:(D,m)∈z):ZAt D m m z z:=by
 induction z with
 | nil=>cases h
 | cons a r ih =>
  rcases List.mem_cons.mp h with q | q
  ·subst q; exact .head
  ·exact .tail (ih q)
theorem VRs.snoc {h:Heap} {own:List Addr} {l:List PV} {p:PV} {vs:List Value} (x:VRs h own (l++[p]) vs):∃ us v,vs=us++[v]∧VRs h own l us∧VR h own p v:=by
 induction l generalizing vs with
 | nil=>cases x with | cons hv hs=>cases hs; exact ⟨[],_,rfl,.nil,hv⟩
 | cons q r ih=>cases x with
  | cons hv hs =>
   obtain ⟨us,v,rfl,h1,h2⟩:=ih hs
   exact ⟨_ :: us,v,rfl,.cons hv h1,h2⟩
theorem run_init {x dx C:Addr} {att:List (Str × PV)} {P:PV→AS→Prop} (hz:(x,.inst dx C att (some []))∈σ.zone) (h:P (.raw .none) σ):SupRun g A F "list.__init__" x σ P:=by
 intro s S R k
 obtain ⟨d,es,n,h1,⟨items,m,rfl,h2⟩,h3,h4⟩:=S.zs _ hz
 have hi:items = #[]:=by
  have:=h2.toArray
  exact Array.eq_empty_of_size_eq_zero this
 subst hi
 refine codeAny_builtin id_init.entry ?_
 show wpAny _ _ (Builtin.List.listItems (.ref x)>>=_) _ _ s
 unfold Builtin.List.listItems
 refine wpAny_bind (wpAny_bind (wpAny_seqItems h1 rfl (wpAny_pure ?_)))
 refine wpAny_bind (m:=updateSeq x fun _=>#[]) (wpAny_updateSeq h1 rfl ?_)
 refine wpAny_bind (wpAny_letGo (wpAny_pure ?_))
 have hs:Heap.SameBut x s.heap (s.heap.update x (Obj.mapSeq fun _=>#[])):=.update ..
 have hg:=Heap.get?_update_self (Obj.mapSeq fun _=>#[]) h1 (by simp [Obj.mapSeq,Obj.isFreed])
 have hm:∃ m',Obj.mapSeq (fun _=>#[]) ({ cls:=.ref C,dict:=some dx,data:=.seq #[] m }:Obj)={ cls:=.ref C,dict:=some dx,data:=.seq #[] m' }:=⟨_,rfl⟩
 obtain ⟨m',hm⟩:=hm
 have hxd:dx≠x:=by
  intro q; subst q
  rw [h1] at h3; cases h3
 obtain ⟨S',st⟩:=S.upd (ZAt.self hz) rfl (h':=s.heap.update x (Obj.mapSeq fun _=>#[])) (fun b o hb e=>hs.extBut b o (fun q=>hb (by simp [MO.addrs,q])) e) fun kp=>⟨_,es,n,hg.trans (congrArg some hm),⟨#[],m',rfl,.nil⟩,hs.extBut _ _ hxd h3,h4.mono kp⟩
 exact k _ _ σ _ h S' (.raw _) st
theorem run_len {x dx C:Addr} {att:List (Str × PV)} {l:List PV} {P:PV→AS→Prop} (hz:(x,.inst dx C att (some l))∈σ.zone) (h:P (.int l.length) σ):SupRun g A F "list.__len__" x σ P:=by
 intro s S R k
 obtain ⟨d,es,n,h1,⟨items,m,rfl,h2⟩,h3,h4⟩:=S.zs _ hz
 have hsz:=h2.toArray
 refine codeAny_builtin id_len.entry ?_
 refine wpAny_bind (m:=slotArgs "__len__" 0 _) (wpAny_pure ?_)
 show wpAny _ _ (seqSize x>>=_) _ _ _
 unfold seqSize
 refine wpAny_bind (wpAny_bind (wpAny_loadPart h1 (wpAny_pure ?_)))
 show wpAny _ _ (mkInt (items.size:Int)>>=fun r=>ret r) _ _ _
 refine wpAny_bind (wpAny_mkInt (wpAny_pure ?_))
 rw [hsz]
 exact k _ _ σ _ h (S.toks _) (.int _ _) .toks
theorem run_pop {x dx C:Addr} {att:List (Str × PV)} {l:List PV} {p:PV} {zone':List (Addr × MO)} {P:PV→AS→Prop} (U:ZAt x (.inst dx C att (some (l++[p]))) (.inst dx C att (some l)) σ.zone zone') (hl:l.length≤1000000) (h:P p ⟨σ.loc,zone'⟩):SupRun g A F "list.pop" x σ P:=by
 intro s S R k
 obtain ⟨pre,post,e1,e2⟩:=U.split
 obtain ⟨d,es,n,h1,⟨items,m,rfl,h2⟩,h3,h4⟩:=S.zs (x,.inst dx C att (some (l++[p]))) (by rw [e1]; simp)
 obtain ⟨us,v,hit,hus,hv⟩:=h2.snoc
 have hul:=hus.length
 have hitems:items=(us++[v]).toArray:=by rw [← hit]
 subst hitems
 refine codeAny_builtin id_pop.entry ?_
 show wpAny _ _ (Builtin.List.listItems (.ref x)>>=_) _ _ s
 unfold Builtin.List.listItems
 refine wpAny_bind (wpAny_bind (wpAny_seqItems h1 rfl (wpAny_pure ?_)))
 have hsz:(us++[v]).toArray.size=us.length + 1:=by simp
 have hne:(us++[v]).toArray.isEmpty=false:=by
  have e1:(us++[v]).toArray.isEmpty=decide ((us++[v]).toArray.size=0):=rfl
  rw [e1,hsz]; simp
 have hidx:seqIndex? (-1) (us++[v]).toArray.size=some us.length:=by rw [hsz,idx_last' (by omega)]; rfl
 have hget:(us++[v]).toArray[us.length]?=some v:=by simp
 dsimp only
 rw [hne,if_neg (by decide),hidx]
 simp only [Option.bind_some,hget,Option.map_some]
 have herase:((us++[v]).toArray.eraseIdxIfInBounds us.length).toList=us:=by
  rw [Array.toList_eraseIdxIfInBounds]
  simp [List.eraseIdx_append_of_length_le]
 refine wpAny_bind (m:=updateSeq x fun y=>y.eraseIdxIfInBounds us.length) (wpAny_updateSeq h1 rfl ?_ (by have:sizeLine=16777216:=rfl; omega) (by
  have:sizeLine=16777216:=rfl
  rw [← Array.length_toList,herase]; omega))
 have hs:Heap.SameBut x s.heap (s.heap.update x (Obj.mapSeq fun y=>y.eraseIdxIfInBounds us.length)):=.update ..
 have hg:=Heap.get?_update_self (Obj.mapSeq fun y=>y.eraseIdxIfInBounds us.length) h1 (by simp [Obj.mapSeq,Obj.isFreed])
 have hm:∃ m',Obj.mapSeq (fun y=>y.eraseIdxIfInBounds us.length) ({ cls:=.ref C,dict:=some dx,data:=.seq (us++[v]).toArray m }:Obj)={ cls:=.ref C,dict:=some dx,data:=.seq ((us++[v]).toArray.eraseIdxIfInBounds us.length) m' }:=⟨_,rfl⟩
 obtain ⟨m',hm⟩:=hm
 have hxd:dx≠x:=by
  intro q; subst q
  rw [h1] at h3; cases h3
 obtain ⟨S',st⟩:=S.upd U rfl (h':=s.heap.update x (Obj.mapSeq fun y=>y.eraseIdxIfInBounds us.length)) (fun b o hb e=>hs.extBut b o (fun q=>hb (by simp [MO.addrs,q])) e) fun kp=>⟨_,es,n,hg.trans (congrArg some hm),⟨_,m',rfl,by rw [herase]; exact hus.mono kp⟩,hs.extBut _ _ hxd h3,h4.mono kp⟩
 refine wpAny_pure (k _ _ _ _ h S' (hv.mono (S.kp st)) st)
theorem chk_len {x:Addr}:SupChk g F "list.__len__" x σ:=fun A s S Q E hq=>by
 obtain ⟨h,gg,d,t,os⟩:=s; exact check_bound_len hq
theorem chk_init {x:Addr}:SupChk g F "list.__init__" x σ:=fun A s S Q E hq=>by
 obtain ⟨h,gg,d,t,os⟩:=s; exact check_bound_init hq
theorem chk_pop {x dx C:Addr} {att:List (Str × PV)} {l:List PV} (hK:Fg g K) (hC:ClsLst K C) (ht:typeIn K (.ref C)=some (.type "type")) (hz:(x,.inst dx C att (some l))∈σ.zone):SupChk g F "list.pop" x σ:=fun A s S Q E hq=>by
 have X:=hK.now S
 obtain ⟨d,es,n,I,_,r⟩:=inst_at (S.zs _ hz)
 obtain ⟨cd,hc,hm⟩:=hC.mro
 obtain ⟨h,gg,dd,t,os⟩:=s
 exact check_bound_pop (oc:={ cls:=.none }) I.at_ rfl I.no I.type (looks_mroIn X (by unfold mroIn; rw [hc,Option.bind_some,hm]; rfl)) (looks_clsIn X hc) (looks_typeIn X ht) hq
end
end Mine
end SM33
section SM34
open PySem PySem.Calls PyProof.Rows PySem.W PySem.Builtin PySem.Builtin.ObjectAttr
namespace Mine
section
variable {g:Gl} {A:Around} {F:Fm} {σ:AS} {s:Shared} {K:Frag}
def CLCk (g:Gl) (A:Around) (F:Fm) (f:Value) (ps:List PV) (kw:List (Str × Value)) (σ:AS) (P:PV→AS→Prop):Prop :=
 ∀ s vs,Sat g F σ s→VRs s.heap σ.own ps vs→∀ (R:Result→Shared→Prop),
  (∀ a b σ' s',P b σ'→Sat g F σ' s'→VR s'.heap σ'.own b a→Stp [] σ.own s σ'.own s'→R (.ok (.ret a)) s')→codeAny (model g.prog g.w) A (.call f ⟨vs,kw⟩) R s
theorem CLCk_fn {f:Addr} {fd:FuncData} {body:List Stmt} {xs:List Str} {ps qs:List PV} {kw:List (Str × Value)} {P:PV→AS→Prop} {n:Nat} (hr:Rm A (n + 1)) (hf:FnAt g f fd body) (hx:xs.Nodup) (hlen:xs.length=qs.length)
  (hb:∀ s vs,Sat g F σ s→VRs s.heap σ.own ps vs→∃ bs,VRs s.heap σ.own qs bs∧BindsTo s fd ⟨vs,kw⟩ (xs.zip bs))
  (hcellB:(fd.scope.names.all fun x=>x.2 != .cell)=true) (hlocB:(xs.all fun x=>fd.scope.names.lookup x == some .local)=true)
  (h:∀ L,EXsAt g (A.deeper (callEnv fd L f)) (.func body (callEnv fd L f)) (fnFm fd L f) body ⟨xs.zip qs,σ.zone⟩ fun fl σ'=>P (match fl with | .ret p=>p | _=>.raw .none) ⟨σ.loc,σ'.zone⟩) :
  CLCk g A F (.ref f) ps kw σ P:=by
 intro s vs₀ S hvs₀ R k
 obtain ⟨vs,hvs,hbd⟩:=hb s vs₀ S hvs₀
 have hcell:∀ x∈fd.scope.names,x.2≠.cell:=fun x hx=>by simpa using List.all_eq_true.mp hcellB x hx
 have hloc:∀ x∈xs,fd.scope.names.lookup x=some .local:=fun x hx=>by simpa using List.all_eq_true.mp hlocB x hx
 obtain ⟨o,e,hd⟩:=hf.now S
 have hlv:=hvs.length
 refine ks_codeAny_call_defAt (hr.le (Nat.zero_le _)).depth e hd S.lim (hf.codeRec S) hf.bd hbd hcell (fun x hx'=>?_) (fun h₀ hn hk=>?_) hf.co hf.gen hf.kind
 ·exact hloc _ (List.of_mem_zip hx').1
 ·have hkeys:((xs.zip vs).map (·.1))=xs:=by
   rw [List.map_fst_zip]; omega
  have hL:s.heap.objs.size∉σ.own:=fun h=>Nat.lt_irrefl _ (S.own_lt h)
  have kp:Kp s.heap h₀ σ.own σ.own:=fun b o xs n e _ no=>⟨hk b o e,no⟩
  have S₀:Sat g (fnFm fd s.heap.objs.size f) ⟨xs.zip qs,σ.zone⟩ { s with heap:=h₀,toks:=s.toks + (xs.zip vs).length }:=by
   refine ⟨S.old.step_keeps hk,S.lim.keeps hk,S.os,S.bare,?_,fun a ha=>?_,fun z hz=>?_,fun a ha=>?_,⟨_,hn⟩,by simp [fnFm,callEnv,newEnv],fun x p ex=>?_,S.cs,fun x c hx _ _ _=>absurd rfl (hcell _ (mem_of_lookup hx))⟩
   ·show ([s.heap.objs.size]++σ.own).Nodup
    exact List.nodup_cons.mpr ⟨hL,(List.nodup_append.mp S.nd).2.1⟩
   ·rcases List.mem_append.mp ha with h | h
    ·simp [fnFm] at h; subst h; exact S.base_le
    ·exact S.lo a (List.mem_append_right _ h)
   ·have:=S.zs z hz
    obtain ⟨b,mo⟩:=z
    cases mo with
    | list l=>obtain ⟨items,n,h1,h2⟩:=this; exact ⟨items,n,hk _ _ h1,h2.mono kp⟩
    | obj ob=>exact ⟨hk _ _ this.1,this.2⟩
    | inst dx C att body =>
     obtain ⟨d,es,n,h1,h2,h3,h4⟩:=this
     refine ⟨d,es,n,hk _ _ h1,?_,hk _ _ h3,h4.mono kp⟩
     cases body with
     | none=>exact h2
     | some l=>obtain ⟨items,n',e1,e2⟩:=h2; exact ⟨items,n',e1,e2.mono kp⟩
   ·simp [fnFm] at ha; subst ha
    obtain ⟨o,es,ep,e,d,_⟩:=hn
    exact ⟨o,e,.inl ⟨es,ep,d⟩⟩
   ·obtain ⟨v,h1,h2⟩:=zip_lookup hvs ex
    refine ⟨v,.inl ⟨?_,_,hn,?_⟩,h2.mono kp⟩
    ·have hm:x∈xs:=by
      have:=List.lookup_eq_some_iff.mp h1
      obtain ⟨l1,l2,e1,_⟩:=this
      have:(x,v)∈xs.zip vs:=by rw [e1]; simp
      exact (List.of_mem_zip this).1
     show fd.scope.names.lookup x=some .local
     exact hloc x hm
    ·rw [lookup_reverse (by rw [hkeys]; exact hx)]; exact h1
  have st₀:Stp [] σ.own s σ.own { s with heap:=h₀,toks:=s.toks + (xs.zip vs).length }:=⟨fun b o e _ _ _=>hk b o e,fun b o e=>⟨o,hk b o e⟩,fun _ h=>.inl h,fun _ _ e=>e⟩
  refine h s.heap.objs.size _ S₀ _ _ fun fv fl σ' s' hP S' hr' st'=>?_
  have hne:∀ b o,s.heap.get? b=some o→b∉[s.heap.objs.size]:=fun b o e q=>by
   rw [List.mem_singleton] at q; subst q
   rw [get?_size] at e; cases e
  have stt:Stp [] σ.own s σ'.own s':=by
   refine ⟨fun b o e nf no hc=>st'.keep b o (hk b o e) (hne b o e) no hc,fun b o e=>st'.there b o (hk b o e),fun a ha=>?_,fun i x e=>st'.gens i x e⟩
   rcases st'.fresh a ha with q | q
   ·exact .inl q
   ·refine .inr ?_
    cases q':s.heap.get? a with
    | none=>rfl
    | some o=>rw [show _=_ from hk a o q'] at q; cases q
  have Sb:=S.back S' stt fun a ha o e=>by
   obtain ⟨o',e',fl⟩:=S.fr a ha
   rw [e] at e'; cases e'
   exact st'.keep a o (hk a o e) (hne a o e) (fun q=>(List.nodup_append.mp S.nd).2.2 a ha a q rfl) fl.hard
  cases hr' with
  | ret hv=>exact k _ _ ⟨σ.loc,σ'.zone⟩ s' hP Sb hv stt
  | next=>exact k _ _ ⟨σ.loc,σ'.zone⟩ s' hP Sb (.raw _) stt
  | brk=>exact k _ _ ⟨σ.loc,σ'.zone⟩ s' hP Sb (.raw _) stt
  | cont=>exact k _ _ ⟨σ.loc,σ'.zone⟩ s' hP Sb (.raw _) stt
theorem CLCk_fnZ {f:Addr} {fd:FuncData} {body:List Stmt} {xs:List Str} {ps qs:List PV} {kw:List (Str × Value)} {P:PV→AS→Prop} {n:Nat} (hr:Rm A (n + 1)) (hf:FnAt g f fd body) (hx:xs.Nodup) (hlen:xs.length=qs.length)
  (hb:∀ s vs,Sat g F σ s→VRs s.heap σ.own ps vs→∃ bs,VRs s.heap σ.own qs bs∧BindsTo s fd ⟨vs,kw⟩ (xs.zip bs))
  (hcellB:(fd.scope.names.all fun x=>x.2 != .cell)=true) (hlocB:(xs.all fun x=>fd.scope.names.lookup x == some .local)=true)
  (h:∀ L,EXs g (A.deeper (callEnv fd L f)) (fnFm fd L f) body ⟨xs.zip qs,σ.zone⟩ fun fl σ'=>∃ pre z,σ'.zone=pre++z∧P (match fl with | .ret p=>p | _=>.raw .none) ⟨σ.loc,z⟩) :
  CLCk g A F (.ref f) ps kw σ P:=by
 refine CLCk_fn hr hf hx hlen hb hcellB hlocB fun L=>?_
 refine JAt.of (J.post (fun hs r=>r.mono (Kp.shrink hs)) (h L) ?_)
 rintro fl ⟨loc,z⟩ ⟨pre,z',hz,hP⟩
 dsimp only at hz
 subst hz
 exact ⟨⟨loc,z'⟩,Weak.dropAll,own_suffix,hP⟩
theorem CLCk.clc {f:Value} {ps:List PV} {P:PV→AS→Prop} (x:CLCk g A F f ps [] σ P):CLC g A F f ps σ P:=x
structure DfltAt (g:Gl) (fd:FuncData) (ds:Array Value):Prop where
 ex:∃ T o n,fd.defaults=.ref T∧g.h₁.get? T=some o∧o.cls≠.none∧o.data=.seq ds n
theorem DfltAt.binds {fd:FuncData} {ds:Array Value} {args:Args} {binds:List (Str × Value)} {k:Option (Array Value)→Sem (List (Str × Value))} (d:DfltAt g fd ds) (S:Sat g F σ s) (h₁:bindArgs fd args=seqItems? fd.defaults>>=k) (h₂:k (some ds)=pure binds):BindsTo s fd args binds:=by
 obtain ⟨T,o,n,e,h,hc,hd⟩:=d.ex
 exact .of_defaults (k:=k) e (S.old.get_of_cls h hc) hd h₁ h₂
end
end Mine
end SM34
section SM35
open PySem PySem.Calls PyProof.Rows PySem.W PySem.Builtin
namespace Mine
section
variable {g:Gl} {A:Around} {F:Fm} {σ:AS} {P:PV→AS→Prop}
theorem is_lst_none {l:List PV} (h:P (.raw (.bool false)) σ):OP2 g A F (compareOp .Is) (.lst l) (.raw .none) σ P:=fun s v u S hv hu Q E k=>by
 cases hv; cases hu; exact wpAny_is_plain (by rfl) (k _ _ σ s h S (.raw _) .refl)
theorem isNot_b_none {l:Array UInt8} (h:P (.raw (.bool true)) σ):OP2 g A F (compareOp .IsNot) (.byt l) (.raw .none) σ P:=fun s v u S hv hu Q E k=>by
 cases hv; cases hu; exact wpAny_isNot_plain (by rfl) (k _ _ σ s h S (.raw _) .refl)
theorem not_op {p:PV} (h:TT g A F p σ fun b σ'=>P (.raw (.bool (!b))) σ'):OP1 g A F (unaryOp .Not) p σ P:=fun s v S hv Q E k=>by
 unfold unaryOp
 refine wpAny_holding ?_
 show wpAny _ A (truthy v>>=fun b=>pure (Value.bool (!b))) Q E s
 exact wpAny_bind (h s v S hv _ E fun b σ₂ s₂ h₂ S₂ st₂=>wpAny_pure (k _ _ σ₂ s₂ h₂ S₂ (.raw _) st₂))
theorem VRs.texts {h:Heap} {own:List Addr}:∀ {as:List (List Nat)} {vs:List Value},VRs h own (as.map tx) vs→vs.length=as.length∧∀ j (h1:j < vs.length),∃ t,vs[j]=.str (ofL (as.getD j [])) t
 | [],_,x=>by cases x; exact ⟨rfl,fun j h1=>by cases h1⟩
 | a :: as,_,x=>by
  cases x with
  | cons hv hs =>
   cases hv with
   | str _ t =>
    obtain ⟨e,f⟩:=VRs.texts hs
    refine ⟨by simp [e],fun j h1=>?_⟩
    cases j with
    | zero=>exact ⟨_,rfl⟩
    | succ j=>exact f j (by simpa using h1)
theorem all_texts (as bs:List (List Nat)):((List.range (min as.length bs.length)).all (fun j=>ofL (as.getD j []) == ofL (bs.getD j [])) && as.length == bs.length)=decide (as=bs):=by
 by_cases h:as=bs
 ·subst h; simp
 ·rw [decide_eq_false h]
  by_cases hl:as.length=bs.length
  ·rw [hl,Nat.min_self]
   simp only [beq_self_eq_true,Bool.and_true]
   rw [← Bool.not_eq_true]
   intro q
   apply h
   apply List.ext_getElem hl
   intro j h1 h2
   have:=List.all_eq_true.mp q j (List.mem_range.mpr h2)
   rw [ofL_beq] at this
   have:=of_decide_eq_true this
   simpa [List.getD_eq_getElem?_getD,h1,h2] using this
  ·rw [show (as.length == bs.length)=false from beq_eq_false_iff_ne.mpr hl,Bool.and_false]
theorem ne_tups {as bs:List (List Nat)} {n:Nat} (hr:Rm A n) (h:P (.raw (.bool (!decide (as=bs)))) σ):OP2 g A F (compareOp .NotEq) (.tup (as.map tx)) (.tup (bs.map tx)) σ P:=fun s v u S hv hu Q E k=>by
 cases hv with
 | @tup _ a items m no1 e1 hs1 =>
  cases hu with
  | @tup _ b items2 m2 no2 e2 hs2 =>
   obtain ⟨l1,f1⟩:=VRs.texts hs1
   obtain ⟨l2,f2⟩:=VRs.texts hs2
   have hu:A.units < cLine:=by have:=hr.units; omega
   refine SeqAt.RcNeAt.tuples (e:=fun j=>ofL (as.getD j []) == ofL (bs.getD j [])) (items:=items) (items2:=items2) ⟨_,e1,rfl,_,rfl⟩ ⟨_,e2,rfl,_,rfl⟩ hu (fun j h1 h2=>?_) g.prog g.w E Q ?_
   ·obtain ⟨t1,q1⟩:=f1 j (by simpa using h1)
    obtain ⟨t2,q2⟩:=f2 j (by simpa using h2)
    have q1':items[j]=_:=q1
    have q2':items2[j]=_:=q2
    rw [q1',q2']
    exact SeqAt.EqAt.str_str _ _ _ _
   ·rw [show items.size=as.length from l1,show items2.size=bs.length from l2,all_texts]
    exact k _ _ σ s h S (.raw _) .refl
end
end Mine
end SM35
section SM36
open PySem PySem.Calls PyProof.Rows PySem.W PySem.Builtin PySem.Builtin.ObjectAttr
namespace Mine
section
variable {prog:Program} {w:World} {A:Around} {E:Value→Shared→Prop} {s:Shared} {K:Frag} {x C f:Addr} {ox:Obj} {od:Option Obj} {name:Str} {expr:Bool} {Q:Value→Shared→Prop}
theorem get_bound_lst (ok:ClsLst K C) (X:K.In s.heap) (I:InstAt s.heap x ox C od)
  (hf:findObj K C od name=some (.bind (.builtin "function.__get__") (.ref f))) (ht:typeIn K (.ref f)=some (.type "function")) (h:Q (.ref s.heap.objs.size) { s with heap:=s.heap.push (methodObj (.ref f) (.ref x)),toks:=s.toks + 1 }):wpAny (model prog w) A (getAttr (.ref x) name expr) Q E s:=by
 obtain ⟨hh',g,d,t,os⟩:=s
 have L0:=I.type (M:=model prog w)
 have L1:=looks_findIn (M:=model prog w) X ok.ga
 have L2:=looks_findIn (M:=model prog w) X ok.gattr
 have L3:=looks_find (M:=model prog w) X I hf
 obtain ⟨cd,hc,hm⟩:=ok.mro
 have sub:Looks (model prog w) hh' (isInstance (.ref x) (.type "list")) true:=L0.andThen (looks_mroIn X (by unfold mroIn; rw [hc,Option.bind_some,hm]; rfl))
 dsimp only at X L0 L1 L2 L3
 unfold getAttr getAttrBy
 refine wpAny_bind (wpAny_mkText (wpAny_holding (wpAny_bind (L0.at (wpAny_bind (L1.at ?_))))))
 show wpAny _ _ (getAttrByItsOwn _ _ _ _ _ _) _ _ _
 unfold getAttrByItsOwn hookBefore callGetattribute boundAndCalled
 refine wpAny_bind (L2.at ?_)
 refine wpAny_bind (wpAny_attempt (wpAny_holding ?_))
 rw [show (expr && onTheHeap (Value.builtin "list.__getattribute__"))=false from by cases expr <;> rfl,if_neg (by decide)]
 rw [slot_list_ga.bind]
 refine wpAny_bind (wpAny_pure ?_)
 refine wpAny_call (codeAny_call_builtin slot_list_ga.plain entry_list_ga (@check_slot (model prog w) _ _ _ "list.__getattribute__" "list" "__getattribute__" (.ref x) [.str name t] [] _ kind_list_ga split_list_ga sub (PySem.F.args_list_getattribute_2 _ _) ?_))
 unfold Builtin.«object.__getattribute__»
 refine wpAny_bind (wpAny_pure (wpAny_bind (wpAny_pure (wpAny_bind (L0.at (wpAny_bind (L3.at ?_)))))))
 show wpAny _ _ (holding [.ref f] (call (.builtin "function.__get__") [.ref f,.ref x,.ref C])>>=ret) _ _ _
 refine wpAny_bind (wpAny_holding (wpAny_call (fn_get (s:=⟨hh',g,d,t + 1,os⟩) X ht ?_)))
 refine wpAny_pure ?_
 show wpAny _ _ (handedOut _) _ _ _
 exact handed_on rfl h
end
section
variable {g:Gl} {A:Around} {F:Fm} {σ:AS} {s:Shared} {P:PV→AS→Prop} {K:Frag}
theorem findObj_bound {C f:Addr} {od:Obj} {name:Str} (ok:ClsOk K C) (ha:findIn K (.ref C) name=some (some (.ref f))) (hg:specialIn K (.ref f) "__get__" = some (some (.builtin "function.__get__"))) (ht:takesIn K (.ref f)=some false) (hc:copiedNames.contains name=false) (hl:lookIn name od=some none) :
  findObj K C (some od) name=some (.bind (.builtin "function.__get__") (.ref f)):=by
 obtain ⟨cd,hc',hd⟩:=ok.dict
 unfold findObj
 have ho:PySem.W.ownOf cd (some od) name=some none:=by unfold PySem.W.ownOf; rw [if_pos hd]; exact hl
 rw [hc',Option.bind_some,ha,Option.bind_some]
 simp only [hg,ht,Option.bind_some,ho,hc,Bool.false_and,Bool.false_eq_true,if_false]
theorem EV_MethStar {o e:Expr} {name:Str} {apos sp pos:Pos} (hK:Fg g K)
  (h:EV g A F o σ fun p σ₁=>∃ x dx C att body f fd bd,p=.raw (.ref x)∧(x,.inst dx C att body)∈σ₁.zone∧ClsLst K C∧findIn K (.ref C) name=some (some (.ref f))∧typeIn K (.ref f)=some (.type "function")∧specialIn K (.ref f) "__get__" = some (some (.builtin "function.__get__"))∧takesIn K (.ref f)=some false ∧
   att.lookup name=none∧FnAt g f fd bd∧EV g A F e σ₁ fun q σ₂=>∃ ps,q=.tup ps∧ps.length≤1000∧CLC g A F (.ref f) (.raw (.ref x) :: ps) σ₂ P)
  (hcn:copiedNames.contains name=false:=by decide +kernel)
  (he:eval (.Call (.Attribute o name apos) [.Starred e sp] [] pos) F.env=(do
   let ov ← eval o F.env
   standAt apos.atName
   let (f,first) ← holding [ov] (do pure (← getAttr ov name true,[]))
   callWith pos f first [(true,do let v ← eval e F.env; standAt pos; pure v)] []):=by with_unfolding_all rfl):EV g A F (.Call (.Attribute o name apos) [.Starred e sp] [] pos) σ P:=by
 intro s S Q E k
 rw [he]
 refine wpAny_bind (h s S _ E fun v p σ₁ s₁ h₁ S₁ hv st₁=>?_)
 obtain ⟨x,dx,C,att,body,f,fd,bd,rfl,hz,hC,hf,ht,hg,htk,hl,hfn,h₁⟩:=h₁
 cases hv
 refine wpAny_bind (wpAny_standAt (wpAny_bind (wpAny_holding (wpAny_bind ?_))))
 obtain ⟨d,es,n,I,hb,r⟩:=inst_at (S₁.zs _ hz)
 have hfo:=findObj_bound hC.toClsOk hf hg htk hcn (lookIn_not (n:=n) r hl)
 refine get_bound_lst hC (hK.now S₁) I hfo ht ?_
 obtain ⟨h₀,gg,dd,tk,os⟩:=s₁
 refine wpAny_pure ?_
 have S₂:=(S₁.push (methodObj (.ref f) (.ref x))).toks (tk + 1)
 have st₂:Stp [] σ₁.own ⟨h₀,gg,dd,tk,os⟩ σ₁.own ⟨h₀.push (methodObj (.ref f) (.ref x)),gg,dd,tk + 1,os⟩:=(Stp.push (methodObj (.ref f) (.ref x))).trans .toks
 have hm:(h₀.push (methodObj (.ref f) (.ref x))).get? h₀.objs.size=some (methodObj (.ref f) (.ref x)):=Heap.get?_push_size _ rfl
 have hmo:h₀.objs.size∉σ₁.own:=fun q=>Nat.lt_irrefl _ (S₁.own_lt q)
 unfold callWith
 refine wpAny_bind (wpAny_holding ?_)
 unfold evalArgs
 refine wpAny_bind (wpAny_bind ?_)
 refine h₁ _ S₂ _ E fun u q σ₃ s₃ h₃ S₃ hu st₃=>?_
 obtain ⟨ps,rfl,hlen,h₃⟩:=h₃
 cases hu with
 | @tup _ a items m no e1 hs1 =>
 refine wpAny_bind (wpAny_standAt (wpAny_pure (wpAny_bind (wpAny_pure ?_))))
 refine wpAny_holding ?_
 show wpAny _ A (pure []>>=_) _ _ _
 refine wpAny_bind (wpAny_pure (wpAny_bind (wpAny_bind ?_)))
 have hT:s₃.heap.IsTuple a items:=⟨_,e1,rfl,_,rfl⟩
 unfold notIterableAtAll
 refine wpAny_bind (wpAny_specialOf hT.typeIs PySem.F.slot_tuple_iter.lookup ?_)
 refine wpAny_pure ?_
 show wpAny _ A (holding [] (collect (.ref a))) _ _ _
 refine wpAny_holding (wpAny_collect_seq a (.inr rfl) e1 rfl rfl (fun h' hk'=>?_) (by have:=hs1.toArray; have e:sizeLine=16777216:=rfl; omega))
 refine wpAny_pure ?_
 have S₄:Sat g F σ₃ { s₃ with heap:=h' }:=S₃.keeps (h':=h') (tk:=s₃.toks) hk'
 have st₄:Stp [] σ₃.own s₃ σ₃.own { s₃ with heap:=h' }:=Stp.keeps (h':=h') (tk:=s₃.toks) hk'
 refine wpAny_bind (wpAny_standAt ?_)
 have hm₃:s₃.heap.get? h₀.objs.size=some (methodObj (.ref f) (.ref x)):=st₃.keep _ _ hm (by simp) hmo (.inl (fun q=>nomatch q))
 have hm₄:=hk' _ _ hm₃
 obtain ⟨of,ef,hd⟩:=hfn.now S₄
 unfold keeperOf
 refine wpAny_bind (wpAny_bind (wpAny_load hm₄ ?_))
 repeat (any_goals (first | with_reducible refine wpAny_load ef ?_ | wp_step))
 rw [hd]
 show wpAny _ A (operate _ (call (.ref h₀.objs.size) items.toList [])>>=_) _ _ _
 refine wpAny_bind (wpAny_operating (wpAny_call (codeAny_of_tree ?_)))
 show wpAny _ A.in1 (callAny (.ref h₀.objs.size) ⟨items.toList,[]⟩) _ _ _
 unfold callAny
 refine wpAny_bind (wpAny_load hm₄ ?_)
 dsimp only
 rw [if_pos (by decide)]
 refine wpAny_pure ⟨rfl,?_⟩
 have hs4:VRs h' σ₃.own ps items.toList:=hs1.mono (S₃.kp st₄)
 refine h₃ _ (.ref x :: items.toList) S₄ (.cons (.raw _) hs4) _ fun a b σ' s' hP S' hv' st'=>?_
 refine wpAny_bind (wpAny_holding (wpAny_point ?_))
 exact wpAny_pure (k a b σ' s' hP S' hv' (st₁.trans (st₂.trans (st₃.trans (st₄.trans st')))))
end
end Mine
end SM36
section SM37
open PySem PySem.Calls PyProof.Rows PySem.W PySem.Builtin
namespace Mine
section
variable {g:Gl} {A:Around} {F:Fm} {σ:AS} {P:PV→AS→Prop}
theorem CL_join_z {sep:List Nat} {ls:List (List Nat)} {D:Addr} (hz:(D,.list (ls.map tx))∈σ.zone) (hok:JoinFit sep ls) (h:P (tx (joinL sep ls)) σ):CL g A F (.builtin "str.join") [tx sep,.raw (.ref D)] σ P:=fun s vs S hvs Q E k=>by
 cases hvs with | cons hv hs'=>cases hs' with | cons hu hs'=>cases hs'; cases hv; cases hu; (
  obtain ⟨items,n,ho,hl⟩:=S.zs _ hz
  refine join_list ⟨_,ho,rfl,_,rfl⟩ (strsOf hl) ?_ fun t' tk=>?_
  ·have:((ls.map ofL).map fun x=>x.length)=ls.map (·.length):=by rw [List.map_map]; exact List.map_congr_left fun a _=>ofL_len a
   rw [this,ofL_len,List.length_map]; exact hok
  ·rw [show Txt.join (ofL sep) (ls.map ofL)=ofL (joinL sep ls) from (StrLaws.glued_eq_join _ _).trans (ofL_join _ _)]
   exact k _ _ σ _ h (S.toks _) (.str _ _) .toks)
end
end Mine
end SM37
section SM38
open PySem PySem.Calls PyProof.Rows PySem.W PySem.Builtin
namespace Mine
section
variable {g:Gl} {A:Around} {F:Fm} {σ:AS} {s:Shared} {loc:List (Str × PV)} {z z':List (Addr × MO)}
theorem Sat.redo (S:Sat g F ⟨loc,z⟩ s) {s':Shared} {T:List Addr} (hT:∀ a∈T,a∈AS.own ⟨loc,z⟩) (hk:∀ b o,b∉T→s.heap.get? b=some o→s'.heap.get? b=some o) (ht:∀ b∈T,∃ o,s'.heap.get? b=some o) (hown:AS.own ⟨loc,z'⟩=AS.own ⟨loc,z⟩)
  (hz:∀ e∈z',Kp s.heap s'.heap (AS.own ⟨loc,z⟩) (AS.own ⟨loc,z⟩)→ZR s'.heap (AS.own ⟨loc,z⟩) e.1 e.2) (ho:s'.os=s.os) (hg:s'.gens=s.gens):Sat g F ⟨loc,z'⟩ s'∧Stp [] (AS.own ⟨loc,z⟩) s (AS.own ⟨loc,z'⟩) s':=by
 have kp:Kp s.heap s'.heap (AS.own ⟨loc,z⟩) (AS.own ⟨loc,z⟩):=fun b o xs n e d no=>⟨hk b o (fun q=>no (hT b q)) e,no⟩
 have hfr:∀ a∈F.fr,a∉T:=fun a ha q=>(List.nodup_append.mp S.nd).2.2 a ha a (hT a q) rfl
 have hlo:∀ a∈T,g.h₁.objs.size≤a:=fun a ha=>S.lo a (List.mem_append_right _ (hT a ha))
 refine ⟨⟨OldT.exts S.old hlo hk,?_,ho.trans S.os,hg ▸ S.bare,?_,?_,?_,fun a ha=>?_,?_,S.nin,fun x p e=>?_,S.cs,S.cl.to fun b o e hc=>?_⟩,fun b o e _ no _=>hk b o (fun q=>no (hT b q)) e,fun b o e=>?_,fun a ha=>.inl (hown ▸ ha),fun i x e=>hg ▸ e⟩
 ·obtain ⟨mc,⟨o,es,ep,e,d,r⟩,h2⟩:=S.lim
  exact ⟨mc,⟨o,es,ep,hk _ _ (fun q=>Nat.lt_irrefl _ (Nat.lt_of_lt_of_le S.cs (hlo _ q))) e,d,r⟩,h2⟩
 ·rw [hown]; exact S.nd
 ·rw [hown]; exact S.lo
 ·intro e he; rw [hown]; exact hz e he kp
 ·obtain ⟨o,e,fl⟩:=S.fr a ha
  exact ⟨o,hk a o (hfr a ha) e,fl⟩
 ·obtain ⟨m,o,es,ep,e,d,r⟩:=S.ns
  exact ⟨m,o,es,ep,hk _ _ (hfr _ S.nin) e,d,r⟩
 ·obtain ⟨v,h1,h2⟩:=S.loc x p e
  refine ⟨v,?_,hown ▸ h2.mono kp⟩
  rcases h1 with ⟨a,mm,⟨o',es',ep',e',r⟩,c⟩ | ⟨a,c,o',h3,h4,h5⟩
  ·exact .inl ⟨a,mm,⟨o',es',ep',hk _ _ (hfr _ S.nin) e',r⟩,c⟩
  ·exact .inr ⟨a,c,o',h3,hk _ _ (fun q=>S.cell_off h4 h5 (hT _ q)) h4,h5⟩
 ·obtain ⟨v,d⟩:=hc
  exact hk b o (fun q=>S.cell_off e d (hT _ q)) e
 ·by_cases q:b∈T
  ·exact ht b q
  ·exact ⟨o,hk b o q e⟩
theorem own_rot {loc:List (Str × PV)} (x z:List (Addr × MO)):∀ a,a∈AS.own ⟨loc,x++z⟩↔a∈AS.own ⟨loc,z++x⟩:=fun a=>by
 unfold AS.own; rw [List.flatMap_append,List.flatMap_append,List.mem_append,List.mem_append]; exact Or.comm
theorem Weak.rot {loc:List (Str × PV)} (x z:List (Addr × MO)):Weak g F ⟨loc,x++z⟩ ⟨loc,z++x⟩:=fun s S=>by
 have kp:Kp s.heap s.heap (AS.own ⟨loc,x++z⟩) (AS.own ⟨loc,z++x⟩):=Kp.shrink fun a ha=>(own_rot x z a).mpr ha
 refine ⟨⟨S.old,S.lim,S.os,S.bare,?_,fun a ha=>?_,fun e he=>?_,S.fr,S.ns,S.nin,fun y p e=>?_,S.cs,S.cl⟩,fun _ _ e _ _ _=>e,fun _ o e=>⟨o,e⟩,fun a h=>.inl ((own_rot x z a).mpr h),fun _ _ e=>e⟩
 ·have nd:=S.nd
  rw [List.nodup_append] at nd ⊢
  refine ⟨nd.1,?_,fun a ha b hb=>nd.2.2 a ha b ((own_rot x z b).mpr hb)⟩
  have h2:=nd.2.1
  unfold AS.own at h2 ⊢
  rw [List.flatMap_append] at h2 ⊢
  rw [List.nodup_append] at h2 ⊢
  exact ⟨h2.2.1,h2.1,fun a ha b hb q=>h2.2.2 b hb a ha q.symm⟩
 ·rcases List.mem_append.mp ha with h | h
  ·exact S.lo a (List.mem_append_left _ h)
  ·exact S.lo a (List.mem_append_right _ ((own_rot x z a).mpr h))
 ·have:=S.zs e (by rcases List.mem_append.mp he with q | q <;> simp [q])
  exact this.mono kp fun _ _ _ e=>e
 ·obtain ⟨v,h1,h2⟩:=S.loc y p e
  exact ⟨v,h1,h2.mono kp⟩
end
section
variable {prog:Program} {w:World} {A:Around} {E:Value→Shared→Prop} {s:Shared}
structure ZipApart1 (z TI TO i l:Addr):Prop where
 TIz:TI≠z
 TOz:TO≠z
 iz:i≠z
 TITO:TI≠TO
 TIi:TI≠i
 TOi:TO≠i
 lz:l≠z
 lTO:l≠TO
 li:l≠i
theorem zip1_next_item {z TI TO i l:Addr} {k:Nat} {xs:Array Value} {x y a b:Value} {Q:Value→Shared→Prop} (D:ZipApart1 z TI TO i l)
  (hz:IsZip s.heap z TI TO .none) (hTI:IsPair s.heap TI (.ref i) (.ref i)) (hTO:IsPair s.heap TO a b)
  (h1:s.heap.IsListIter i l k) (hl:s.heap.IsList l xs) (hx:xs[k]?=some x) (hy:xs[k + 1]?=some y)
  (hQ:∀ h',IsZip h' z TI TO (rawInt s.heap.objs.size)→IsPair h' TO x y→h'.IsListIter i l (k + 2)→IsPair h' s.heap.objs.size x y →
   (∀ c o,c≠z→c≠TO→c≠i→s.heap.get? c=some o→h'.get? c=some o)→Q (.ref s.heap.objs.size) { s with heap:=h' }) :
  wpAny (model prog w) A (Builtin.«zip.__next__» ⟨[.ref z],[]⟩) (fun fin s'=>∃ v,fin=.done (.ret v)∧Q v s') E s:=by
 show wpAny _ _ (field (.ref z) 2>>=_) _ _ _
 refine wpAny_bind (wpAny_field hz rfl (x:=.bool false) rfl ?_)
 show wpAny _ _ (field (.ref z) 3>>=_) _ _ _
 refine wpAny_bind (wpAny_field hz rfl (x:=.ref TI) rfl ?_)
 refine wpAny_bind (wpAny_seqItems hTI rfl ?_)
 show wpAny _ _ (Builtin.SmallTypes.ownedTupleIsFree (.ref z)>>=_) _ _ _
 refine wpAny_bind ?_
 unfold Builtin.SmallTypes.ownedTupleIsFree
 refine wpAny_bind (wpAny_field hz rfl (x:=.none) rfl (wpAny_pure ?_))
 simp only [if_true]
 refine wpAny_bind (wpAny_rule ?_)
 refine wpAny_bind (wpAny_field hz rfl (x:=.ref TO) rfl ?_)
 refine wpAny_bind (wpAny_setField_rec hz (by simp) fun h₁ hz₁ hs₁=>?_)
 replace hz₁:IsZip h₁ z TI TO .ellipsis:=hz₁
 refine wpAny_bind ?_
 simp only [List.zipIdx_cons,List.zipIdx_nil,List.forIn_cons,List.forIn_nil]
 refine wpAny_bind (wpAny_bind (wpAny_onRaise ?_))
 show wpAny _ _ (Builtin.SmallTypes.nextOf (.ref i)>>=_) _ _ _
 refine wpAny_bind (wpAny_nextOf_list_item (h1.extBut hs₁.extBut D.iz) (hl.extBut hs₁.extBut D.lz) hx fun h₂ h1₂ hs₂=>wpAny_pure ?_)
 have hTO₂:IsPair h₂ TO a b:=hs₂.extBut _ _ D.TOi (hs₁.extBut _ _ D.TOz hTO)
 refine wpAny_bind (wpAny_seqItems hTO₂ rfl ?_)
 refine wpAny_bind (wpAny_updateSeq_pair hTO₂ fun h₃ hTO₃ hs₃=>?_)
 replace hTO₃:IsPair h₃ TO x b:=hTO₃
 refine wpAny_bind (wpAny_letGo (wpAny_pure ?_))
 refine wpAny_bind (wpAny_bind (wpAny_onRaise ?_))
 show wpAny _ _ (Builtin.SmallTypes.nextOf (.ref i)>>=_) _ _ _
 refine wpAny_bind (wpAny_nextOf_list_item (h1₂.extBut hs₃.extBut D.TOi.symm)
  (((hl.extBut hs₁.extBut D.lz).extBut hs₂.extBut D.li).extBut hs₃.extBut D.lTO) hy fun h₄ h2₄ hs₄=>wpAny_pure ?_)
 have hTO₄:IsPair h₄ TO x b:=hs₄.extBut _ _ D.TOi hTO₃
 refine wpAny_bind (wpAny_seqItems hTO₄ rfl ?_)
 refine wpAny_bind (wpAny_updateSeq_pair hTO₄ fun h₅ hTO₅ hs₅=>?_)
 replace hTO₅:IsPair h₅ TO x y:=hTO₅
 refine wpAny_bind (wpAny_letGo (wpAny_pure (wpAny_pure ?_)))
 refine wpAny_bind (wpAny_seqItems hTO₅ rfl ?_)
 refine wpAny_bind (wpAny_newTuple ?_)
 have hsz:h₅.objs.size=s.heap.objs.size:=by rw [hs₅.1,hs₄.1,hs₃.1,hs₂.1,hs₁.1]
 have hz₅:IsZip h₅ z TI TO .ellipsis:=hs₅.extBut _ _ D.TOz.symm (hs₄.extBut _ _ D.iz.symm (hs₃.extBut _ _ D.TOz.symm (hs₂.extBut _ _ D.iz.symm hz₁)))
 have hk₅:∀ c o,c≠z→c≠TO→c≠i→s.heap.get? c=some o→h₅.get? c=some o:=fun c o c1 c2 c3 e =>
  hs₅.extBut _ _ c2 (hs₄.extBut _ _ c3 (hs₃.extBut _ _ c2 (hs₂.extBut _ _ c3 (hs₁.extBut _ _ c1 e))))
 have h1₅:h₅.IsListIter i l (k + 2):=h2₄.extBut hs₅.extBut D.TOi.symm
 have hzlt:z < h₅.objs.size:=Heap.lt_size hz₅
 show wpAny _ _ (Builtin.SmallTypes.ownedTupleHandOut (.ref z) (.ref h₅.objs.size)>>=_) _ _ _
 refine wpAny_bind ?_
 unfold Builtin.SmallTypes.ownedTupleHandOut
 have hz₆:IsZip (h₅.push { cls:=.type "tuple",data:=.seq #[x,y] }) z TI TO .ellipsis:=Heap.get?_push_of_some _ hz₅
 refine wpAny_bind (wpAny_setField_rec hz₆ (by simp) fun h₇ hz₇ hs₇=>?_)
 replace hz₇:IsZip h₇ z TI TO (rawInt h₅.objs.size):=hz₇
 refine wpAny_setField_rec hz₇ (by simp) fun h₈ hz₈ hs₈=>?_
 replace hz₈:IsZip h₈ z TI TO (rawInt h₅.objs.size):=hz₈
 have up:∀ c o,c≠z→h₅.get? c=some o→h₈.get? c=some o:=fun c o c1 e=>hs₈.extBut _ _ c1 (hs₇.extBut _ _ c1 (Heap.get?_push_of_some _ e))
 have hT₈:IsPair h₈ h₅.objs.size x y:=hs₈.extBut _ _ (Nat.ne_of_gt hzlt) (hs₇.extBut _ _ (Nat.ne_of_gt hzlt) (Heap.get?_push_size _ rfl))
 rw [hsz] at hz₈ hT₈
 refine wpAny_pure ⟨_,rfl,?_⟩
 show Q (.ref h₅.objs.size) _
 rw [hsz]
 exact hQ h₈ hz₈ (up _ _ D.TOz hTO₅) (h1₅.at fun o e=>up _ o D.iz e) hT₈ fun c o c1 c2 c3 e=>up c o c1 (hk₅ c o c1 c2 c3 e)
theorem zip1_next_end {z TI TO i l:Addr} {k:Nat} {xs:Array Value} {a b:Value} {Q:Fin→Shared→Prop} (hh:A.handled=none) (D:ZipApart1 z TI TO i l)
  (hz:IsZip s.heap z TI TO .none) (hTI:IsPair s.heap TI (.ref i) (.ref i)) (hTO:IsPair s.heap TO a b)
  (h1:s.heap.IsListIter i l k) (hl:s.heap.IsList l xs) (hx:xs[k]?=none)
  (hE:∀ h' e,(∀ c o,c≠z→c≠i→s.heap.get? c=some o→h'.get? c=some o)→(∃ o,h'.get? e=some o∧o.cls=.type "StopIteration")→E (.ref e) { s with heap:=h' }) :
  wpAny (model prog w) A (Builtin.«zip.__next__» ⟨[.ref z],[]⟩) Q E s:=by
 show wpAny _ _ (field (.ref z) 2>>=_) _ _ _
 refine wpAny_bind (wpAny_field hz rfl (x:=.bool false) rfl ?_)
 show wpAny _ _ (field (.ref z) 3>>=_) _ _ _
 refine wpAny_bind (wpAny_field hz rfl (x:=.ref TI) rfl ?_)
 refine wpAny_bind (wpAny_seqItems hTI rfl ?_)
 show wpAny _ _ (Builtin.SmallTypes.ownedTupleIsFree (.ref z)>>=_) _ _ _
 refine wpAny_bind ?_
 unfold Builtin.SmallTypes.ownedTupleIsFree
 refine wpAny_bind (wpAny_field hz rfl (x:=.none) rfl (wpAny_pure ?_))
 simp only [if_true]
 refine wpAny_bind (wpAny_rule ?_)
 refine wpAny_bind (wpAny_field hz rfl (x:=.ref TO) rfl ?_)
 refine wpAny_bind (wpAny_setField_rec hz (by simp) fun h₁ hz₁ hs₁=>?_)
 replace hz₁:IsZip h₁ z TI TO .ellipsis:=hz₁
 refine wpAny_bind ?_
 simp only [List.zipIdx_cons,List.zipIdx_nil,List.forIn_cons,List.forIn_nil]
 refine wpAny_bind (wpAny_bind (wpAny_onRaise ?_))
 show wpAny _ _ (Builtin.SmallTypes.nextOf (.ref i)>>=_) _ _ _
 refine wpAny_bind (wpAny_nextOf_list_end hh (h1.extBut hs₁.extBut D.iz) (hl.extBut hs₁.extBut D.lz) hx fun h₂ e hs₂ he=>?_)
 obtain ⟨oe,hoe,hce⟩:=he
 have hz₂:IsZip h₂ z TI TO .ellipsis:=hs₂ _ _ D.iz.symm hz₁
 have hez:e≠z:=fun x=>by subst x; rw [hz₂] at hoe; cases hoe; simp at hce
 refine wpAny_setField_rec hz₂ (by simp) fun h₃ _ hs₃=>hE h₃ e (fun c o c1 c3 x=>hs₃.extBut _ _ c1 (hs₂ _ _ c3 (hs₁.extBut _ _ c1 x))) ⟨oe,hs₃.extBut _ _ hez hoe,hce⟩
theorem pyNext_zip1_item {z TI TO i l:Addr} {k:Nat} {xs:Array Value} {x y a b:Value} {Q:Option Value→Shared→Prop} (D:ZipApart1 z TI TO i l)
  (hz:IsZip s.heap z TI TO .none) (hTI:IsPair s.heap TI (.ref i) (.ref i)) (hTO:IsPair s.heap TO a b)
  (h1:s.heap.IsListIter i l k) (hl:s.heap.IsList l xs) (hx:xs[k]?=some x) (hy:xs[k + 1]?=some y)
  (hQ:∀ h',IsZip h' z TI TO (rawInt s.heap.objs.size)→IsPair h' TO x y→h'.IsListIter i l (k + 2)→IsPair h' s.heap.objs.size x y →
   (∀ c o,c≠z→c≠TO→c≠i→s.heap.get? c=some o→h'.get? c=some o)→Q (some (.ref s.heap.objs.size)) { s with heap:=h' }) :
  wpAny (model prog w) A (pyNext (.ref z)) Q E s:=by
 have hT:s.TypeIs (.ref z) "zip":=⟨_,hz,rfl⟩
 unfold pyNext
 exact wpAny_bind (wpAny_attempt (wpAny_callSpecial?_slot (name:=Str.ofString "__next__") hT PySem.F.slot_zip_next
  (wpAny_call_entry PySem.F.slot_zip_next hT PySem.F.entry_zip_next
   (zip1_next_item D hz hTI hTO h1 hl hx hy fun h' a1 a2 a3 a4 a5=>wpAny_pure (hQ h' a1 a2 a3 a4 a5)) (PySem.F.args_zip_next_1 _))))
theorem pyNext_zip1_end {z TI TO i l:Addr} {k:Nat} {xs:Array Value} {a b:Value} {Q:Option Value→Shared→Prop} (hh:A.handled=none) (D:ZipApart1 z TI TO i l)
  (hz:IsZip s.heap z TI TO .none) (hTI:IsPair s.heap TI (.ref i) (.ref i)) (hTO:IsPair s.heap TO a b)
  (h1:s.heap.IsListIter i l k) (hl:s.heap.IsList l xs) (hx:xs[k]?=none)
  (hQ:∀ h',(∀ c o,c≠z→c≠i→s.heap.get? c=some o→h'.get? c=some o)→Q none { s with heap:=h' }):wpAny (model prog w) A (pyNext (.ref z)) Q E s:=by
 have hT:s.TypeIs (.ref z) "zip":=⟨_,hz,rfl⟩
 unfold pyNext
 refine wpAny_bind (wpAny_attempt (wpAny_callSpecial?_slot (name:=Str.ofString "__next__") hT PySem.F.slot_zip_next
  (wpAny_call_entry PySem.F.slot_zip_next hT PySem.F.entry_zip_next (zip1_next_end hh D hz hTI hTO h1 hl hx fun h' e hk he=>?_) (PySem.F.args_zip_next_1 _))))
 obtain ⟨o,ho,hc⟩:=he
 refine wpAny_bind (wpAny_isInstance (T:="StopIteration") (b:=true) ⟨o,ho,hc⟩ isSubtype_stop ?_)
 exact wpAny_pure (hQ _ hk)
theorem meets_zip1_new (i l:Addr) (k:Nat):Meets (Builtin.«zip.__new__» ⟨[.type "zip",.ref i,.ref i],[]⟩) (fun _ R s=>s.heap.IsListIter i l k ∧
      R (.ok (.ret (.ref (s.heap.objs.size + 2)))) { s with heap := ((s.heap.push { cls := .type "tuple", data := .seq #[.ref i, .ref i] }).push { cls := .type "tuple", data := .seq #[.none, .none] }).push { cls := .type "zip", data := .fields #[.none, .bool false, .bool false, .ref s.heap.objs.size, .ref (s.heap.objs.size + 1)] } }) :=
  .of_wp fun prog w A R s h => by
    obtain ⟨hp, g, d, tk, os⟩ := s; obtain ⟨hi, h⟩ := h
    have hsub := sub_zip
    have hI : Heap.IsListIter (Shared.heap ⟨hp, g, d, tk, os⟩) i l k := hi
    wp_walk using wpAny_pyIter_listiter hI
    refine ⟨_, rfl, ?_⟩
    simp only [Heap.size_push]
    exact h
theorem call_zip1 {i l:Addr} {k:Nat} {Q:Value→Shared→Prop} (hi:s.heap.IsListIter i l k)
  (h:Q (.ref (s.heap.objs.size + 2)) { s with heap:=((s.heap.push { cls:=.type "tuple",data:=.seq #[.ref i,.ref i] }).push { cls:=.type "tuple",data:=.seq #[.none,.none] }).push { cls:=.type "zip",data:=.fields #[.none,.bool false,.bool false,.ref s.heap.objs.size,.ref (s.heap.objs.size + 1)] } }) :
  wpAny (model prog w) A (call (.type "zip") [.ref i,.ref i]) Q E s:=by
 refine callType_new PySem.F.called_zip (by decide) (PySem.F.typeCall_zip_2 _ _) (PySem.F.newCall_zip_2 _ _) (fun obj=>PySem.F.args_object_init_3 obj _ _) PySem.F.entry_zip_new
  (meets_zip1_new i l k) ⟨hi,?_⟩
 have g5:(((s.heap.push { cls:=.type "tuple",data:=.seq #[.ref i,.ref i] }).push { cls:=.type "tuple",data:=.seq #[.none,.none] }).push { cls:=.type "zip",data:=.fields #[.none,.bool false,.bool false,.ref s.heap.objs.size,.ref (s.heap.objs.size + 1)] }).get? ((s.heap.push { cls:=.type "tuple",data:=.seq #[.ref i,.ref i] }).push { cls:=.type "tuple",data:=.seq #[.none,.none] }).objs.size=some _:=Heap.get?_push_size _ rfl
 rw [Heap.size_push,Heap.size_push] at g5
 exact ⟨⟨_,g5,rfl⟩,h⟩
end
end Mine
end SM38
section SM39
open PySem PySem.Calls PyProof.Rows PySem.W PySem.Builtin
namespace Mine
def ForZ (g:Gl) (A:Around) (F:Fm) (t:Expr) (body orelse:List Stmt):List PV→AS→(Fl→AS→Prop)→Prop
 | [],σ,P=>EXs g A F orelse σ P
 | x :: xs,σ,P=>∀ T:List (Addr × MO),AS1 g A F t x ⟨σ.loc,σ.zone++T⟩ fun σ₁=>EXs g A F body σ₁ fun fl σ₂=>match fl with
  | .next | .cont=>∃ z',σ₂.zone=z'++T∧ForZ g A F t body orelse xs ⟨σ₂.loc,z'⟩ P
  | .brk=>False
  | .ret _=>False
def pairUp:List PV→List PV
 | a :: b :: r=>.tup [a,b] :: pairUp r
 | _=>[]
section
variable {g:Gl} {A:Around} {F:Fm} {σ:AS} {s:Shared}
structure ZipAt (h:Heap) (own:List Addr) (T:List (Addr × MO)) (z TI TO i l:Addr) (k:Nat) (ps:List PV):Prop where
 hT:∃ oz oi ot,T=[(z,.obj oz),(TO,.obj ot),(i,.obj oi)]
 hz:IsZip h z TI TO .none
 hTI:IsPair h TI (.ref i) (.ref i)
 hTO:∃ a b,IsPair h TO a b
 it:h.IsListIter i l k
 lst:∃ items n,h.get? l=some (lstObj items n)∧VRs h own ps items.toList
 TIo:TI∉own
 lo:l∉own
 ap:ZipApart1 z TI TO i l
theorem own_tail {loc:List (Str × PV)} {zone:List (Addr × MO)} {z TO i:Addr} {oz oi ot:Obj}:AS.own ⟨loc,zone++[(z,.obj oz),(TO,.obj ot),(i,.obj oi)]⟩=AS.own ⟨loc,zone⟩++[z,TO,i]:=by
 unfold AS.own; rw [List.flatMap_append]; rfl
theorem zfor_run {es:List Expr} {tn:Nat} {tp:Pos} {body orelse:List Stmt} {P:Fl→AS→Prop} {own₀:List Addr} {s₀:Shared} {R:Result→Shared→Prop} {z TI TO i l:Addr} {ps:List PV} (hr:Rm A 0) (hfresh:∀ a∈[z,TO,i],s₀.heap.get? a=none)
  (k:∀ f fl σ' s',P fl σ'→Sat g F σ' s'→FlR s'.heap σ'.own fl f→Stp F.fr own₀ s₀ σ'.own s'→R (.ok f) s')
  {n:Nat} {T:List (Addr × MO)} (hev:∃ m,(ps.drop n).length=2 * m) (S:Sat g F ⟨σ.loc,σ.zone++T⟩ s) (st:Stp F.fr own₀ s₀ (AS.own ⟨σ.loc,σ.zone++T⟩) s) (Z:ZipAt s.heap (AS.own ⟨σ.loc,σ.zone++T⟩) T z TI TO i l n ps) (h:ForZ g A F (.Tuple es tn tp) body orelse (pairUp (ps.drop n)) σ P) :
  codeAny (model g.prog g.w) A (.forLoop (.Tuple es tn tp) (.ref z) body orelse F.env) R s:=by
 refine codeAny_forLoop_any (fun m s=>∃ σ n T,(ps.drop n).length=2 * m∧Sat g F ⟨σ.loc,σ.zone++T⟩ s∧Stp F.fr own₀ s₀ (AS.own ⟨σ.loc,σ.zone++T⟩) s∧ZipAt s.heap (AS.own ⟨σ.loc,σ.zone++T⟩) T z TI TO i l n ps∧ForZ g A F (.Tuple es tn tp) body orelse (pairUp (ps.drop n)) σ P) ?_ hev.choose ⟨σ,n,T,hev.choose_spec,S,st,Z,h⟩
 clear S st Z h hev
 rintro m s ⟨σ,n,T,hm,S,st,Z,h⟩
 obtain ⟨a,b,hTO⟩:=Z.hTO
 obtain ⟨items,ni,hl,hv⟩:=Z.lst
 obtain ⟨oz,oi,ot,hT⟩:=Z.hT
 subst hT
 have hown:=own_tail (loc:=σ.loc) (zone:=σ.zone) (z:=z) (TO:=TO) (i:=i) (oz:=oz) (oi:=oi) (ot:=ot)
 have nd:=S.nd
 rw [hown,List.nodup_append,List.nodup_append] at nd
 have hlist:s.heap.IsList l items:=⟨_,hl,rfl,_,rfl⟩
 cases hd:ps.drop n with
 | nil =>
  rw [hd] at h
  have hnone:items[n]?=none:=by
   have:=drop_nil hd
   have hl':=hv.length
   rw [List.getElem?_eq_none_iff] at this
   simp only [Array.length_toList] at hl'
   rw [Array.getElem?_eq_none_iff]; omega
  refine pyNext_zip1_end hr.handled Z.ap Z.hz Z.hTI hTO Z.it hlist hnone fun h' hk=>?_
  have W:Weak g F ⟨σ.loc,σ.zone++[(z,.obj oz),(TO,.obj ot),(i,.obj oi)]⟩ σ:=(Weak.rot σ.zone _).trans (Weak.dropAll (pre:=[(z,.obj oz),(TO,.obj ot),(i,.obj oi)]) (post:=σ.zone))
  obtain ⟨S₁,st₁⟩:=W s S
  obtain ⟨oi',e1,c1,d1⟩:=Z.it
  have hoff:∀ a∈[z,i],g.h₁.objs.size≤a∧a∉F.fr∧a∉σ.own∧∀ o,s.heap.get? a=some o→(∀ xs n,o.data≠.seq xs n)∧∀ v,o.data≠.cell v:=by
   intro a ha
   have hm:a∈[z,TO,i]:=by simp at ha ⊢; rcases ha with q | q <;> simp [q]
   refine ⟨S.lo a (List.mem_append_right _ (by rw [hown]; exact List.mem_append_right _ hm)),fun q=>nd.2.2 a q a (List.mem_append_right _ hm) rfl,fun q=>nd.2.1.2.2 a q a hm rfl,fun o e=>?_⟩
   rcases List.mem_cons.mp ha with q | q
   ·subst q
    have hzz:s.heap.get? a=some _:=Z.hz
    rw [e] at hzz; cases hzz
    exact ⟨fun _ _ q=>(nomatch q),fun _ q=>(nomatch q)⟩
   ·rw [List.mem_singleton] at q; subst q
    rw [e] at e1; cases e1
    rw [d1]
    exact ⟨fun _ _ q=>(nomatch q),fun _ q=>(nomatch q)⟩
  have hk2:∀ b o,b∉[z,i]→s.heap.get? b=some o→h'.get? b=some o:=fun b o hb e=>hk b o (fun q=>hb (by simp [q])) (fun q=>hb (by simp [q])) e
  have S₂:Sat g F σ { s with heap:=h' }:=Sat.offs S₁ (T:=[z,i]) (s':={ s with heap:=h' }) hoff hk2 rfl S₁.bare
  have st₂:Stp F.fr own₀ s₀ σ.own { s with heap:=h' }:=(st.trans st₁.up).offs (ads:=[z,i]) (fun a ha=>hfresh a (by simp at ha ⊢; rcases ha with q | q <;> simp [q])) (fun b o e hb=>hk2 b o hb e) rfl
  refine h _ S₂ _ _ fun f fl σ' s' h' S' hr' st'=>?_
  exact k f fl σ' s' h' S' hr' (st₂.trans st')
 | cons p r =>
  cases r with
  | nil=>rw [hd] at hm; simp at hm; omega
  | cons q r =>
   rw [hd] at h
   obtain ⟨h1,h2⟩:=drop_cons hd
   obtain ⟨h3,h4⟩:=drop_cons h2
   obtain ⟨v,hv1,hv2⟩:=hv.get h1
   obtain ⟨u,hu1,hu2⟩:=hv.get h3
   refine pyNext_zip1_item Z.ap Z.hz Z.hTI hTO Z.it hlist (by simpa using hv1) (by simpa using hu1) fun h' a1 a2 a3 a4 a5=>?_
   refine wpAny_letOwnedTupleGo_zip a1 fun h'' b1 b2=>?_
   have hk2:∀ b o,b∉[z,TO,i]→s.heap.get? b=some o→h''.get? b=some o:=fun b o hb e=>by
    have n1:b≠z:=fun q=>hb (by simp [q])
    exact b2.extBut b o n1 (a5 b o n1 (fun q=>hb (by simp [q])) (fun q=>hb (by simp [q])) e)
   have hTO'':IsPair h'' TO v u:=b2.extBut _ _ Z.ap.TOz a2
   have hit'':h''.IsListIter i l (n + 2):=a3.extBut b2.extBut Z.ap.iz
   obtain ⟨oi',e1,c1,d1⟩:=hit''
   have hown':AS.own ⟨σ.loc,σ.zone++[(z,.obj { cls:=.type "zip",dict:=none,data:=.fields #[.none,.bool false,.bool false,.ref TI,.ref TO],slots:=#[] }),(TO,.obj { cls:=.type "tuple",data:=.seq #[v,u] }),(i,.obj oi')]⟩=AS.own ⟨σ.loc,σ.zone++[(z,.obj oz),(TO,.obj ot),(i,.obj oi)]⟩:=own_tail.trans hown.symm
   obtain ⟨S₁,st₁⟩:=Sat.redo (z':=σ.zone++[(z,.obj { cls:=.type "zip",dict:=none,data:=.fields #[.none,.bool false,.bool false,.ref TI,.ref TO],slots:=#[] }),(TO,.obj { cls:=.type "tuple",data:=.seq #[v,u] }),(i,.obj oi')]) S (s':={ s with heap:=h'' }) (T:=[z,TO,i])
    (fun a ha=>by rw [hown]; exact List.mem_append_right _ ha) hk2 (fun b hb=>by
     simp at hb
     rcases hb with q | q | q
     ·subst q; exact ⟨_,b1⟩
     ·subst q; exact ⟨_,hTO''⟩
     ·subst q; exact ⟨_,e1⟩) hown' (fun e he kp=>by
     rcases List.mem_append.mp he with q | q
     ·refine (S.zs e (List.mem_append_left _ q)).mono kp fun b hb o eo=>hk2 b o (fun q2=>?_) eo
      exact nd.2.1.2.2 b (List.mem_flatMap.mpr ⟨e,q,hb⟩) b q2 rfl
     ·simp at q
      rcases q with q | q | q
      ·subst q; exact ⟨b1,fun _ q=>(nomatch q),fun q=>(nomatch q)⟩
      ·subst q; exact ⟨hTO'',fun _ q=>(nomatch q),fun q=>(nomatch q)⟩
      ·subst q; exact ⟨e1,fun _ q=>by rw [d1] at q; exact (nomatch q),by rw [c1]; exact fun q=>(nomatch q)⟩) rfl rfl
   have hnz:s.heap.objs.size≠z:=fun q=>by
    have hlt:z < s.heap.objs.size:=Heap.lt_size (show s.heap.get? z=some _ from Z.hz)
    rw [q] at hlt
    exact Nat.lt_irrefl _ hlt
   have hnt:h''.get? s.heap.objs.size=some (tupObj #[v,u] 0):=b2.extBut _ _ hnz a4
   have hno:s.heap.objs.size∉AS.own ⟨σ.loc,σ.zone++[(z,.obj oz),(TO,.obj ot),(i,.obj oi)]⟩:=fun q=>Nat.lt_irrefl _ (S.own_lt q)
   have kp₁:=S.kp st₁
   have hvr:VR h'' (AS.own ⟨σ.loc,σ.zone++[(z,.obj { cls:=.type "zip",dict:=none,data:=.fields #[.none,.bool false,.bool false,.ref TI,.ref TO],slots:=#[] }),(TO,.obj { cls:=.type "tuple",data:=.seq #[v,u] }),(i,.obj oi')]⟩) (.tup [p,q]) (.ref s.heap.objs.size) :=
    .tup (by rw [hown']; exact hno) hnt (.cons (hv2.mono kp₁) (.cons (hu2.mono kp₁) .nil))
   refine h _ _ _ S₁ hvr _ _ fun σ₃ s₃ h₃ S₃ st₃=>?_
   refine h₃ s₃ S₃ _ _ fun f fl σ₄ s₄ h₄ S₄ hr₄ st₄=>?_
   have stt:Stp F.fr _ s σ₄.own s₄:=st₁.up.trans (st₃.trans st₄)
   have fin:∀ z',σ₄.zone=z'++[(z,.obj { cls:=.type "zip",dict:=none,data:=.fields #[.none,.bool false,.bool false,.ref TI,.ref TO],slots:=#[] }),(TO,.obj { cls:=.type "tuple",data:=.seq #[v,u] }),(i,.obj oi')]→ForZ g A F (.Tuple es tn tp) body orelse (pairUp r) ⟨σ₄.loc,z'⟩ P →
     ∃ m',m' < m∧∃ σ n T,(ps.drop n).length=2 * m'∧Sat g F ⟨σ.loc,σ.zone++T⟩ s₄∧Stp F.fr own₀ s₀ (AS.own ⟨σ.loc,σ.zone++T⟩) s₄∧ZipAt s₄.heap (AS.own ⟨σ.loc,σ.zone++T⟩) T z TI TO i l n ps∧ForZ g A F (.Tuple es tn tp) body orelse (pairUp (ps.drop n)) σ P:=by
    intro z' ez hz'
    obtain ⟨loc₄,zone₄⟩:=σ₄
    dsimp only at ez
    subst ez
    rw [hd,List.length_cons,List.length_cons] at hm
    have kp₄:=S.kp stt
    obtain ⟨g1,g2⟩:=kp₄ TI _ _ _ Z.hTI rfl Z.TIo
    obtain ⟨g3,g4⟩:=kp₄ l _ _ _ hl rfl Z.lo
    have zz:∀ e∈[(z,MO.obj { cls:=.type "zip",dict:=none,data:=.fields #[.none,.bool false,.bool false,.ref TI,.ref TO],slots:=#[] }),(TO,.obj { cls:=.type "tuple",data:=.seq #[v,u] }),(i,.obj oi')],ZR s₄.heap _ e.1 e.2:=fun e he=>S₄.zs e (List.mem_append_right _ he)
    have z1:=(zz _ (.head _)).1
    have z2:=(zz _ (.tail _ (.head _))).1
    have z3:=(zz _ (.tail _ (.tail _ (.head _)))).1
    exact ⟨m - 1,by omega,⟨loc₄,z'⟩,n + 2,_,by rw [h4]; omega,S₄,st.trans stt,⟨⟨_,_,_,rfl⟩,z1,g1,⟨_,_,z2⟩,⟨_,z3,c1,d1⟩,⟨_,_,g3,hv.mono kp₄⟩,g2,g4,Z.ap⟩,by rw [h4]; exact hz'⟩
   cases hr₄ with
   | next=>obtain ⟨z',e,h₅⟩:=h₄; exact fin z' e h₅
   | cont=>obtain ⟨z',e,h₅⟩:=h₄; exact fin z' e h₅
   | brk=>exact h₄.elim
   | ret hv=>exact h₄.elim
end
end Mine
end SM39
section SM40
open PySem PySem.Calls PyProof.Rows PySem.W PySem.Builtin
namespace Mine
section
variable {g:Gl} {A:Around} {F:Fm} {σ:AS} {s:Shared}
theorem ne_nat {a b:Addr} (h:¬ @Eq Nat a b):a≠b:=h
theorem call_iter_list {prog:Program} {w:World} {E:Value→Shared→Prop} {l:Addr} {items:Array Value} {n:Nat} {Q:Value→Shared→Prop} (hl:s.heap.get? l=some (lstObj items n))
  (h:Q (.ref s.heap.objs.size) { s with heap:=s.heap.push { cls:=.type "list_iterator",data:=.fields #[.ref l,.int 0 0] } }):wpAny (model prog w) A (call (.builtin "iter") [.ref l]) Q E s:=by
 refine call_function_entry (by decide +kernel) (by decide +kernel) kdk_entry_iter (kdk_args_iter _) ?_
 unfold Builtin.«iter»
 refine wpAny_bind (m:=someArgs "iter" 1 2 _) (wpAny_of_eq (a:=[Value.ref l]) (by first | rfl | kernel_rfl!) ?_)
 show wpAny _ _ (pyIter (.ref l)>>=_) _ _ _
 exact wpAny_bind (wpAny_pyIter_list ⟨_,hl,rfl,_,rfl⟩ (wpAny_pure ⟨_,rfl,h⟩))
theorem mul_one_list {prog:Program} {w:World} {E:Value→Shared→Prop} {l:Addr} {v:Value} {k:Nat} {u:Tok} {Q:Value→Shared→Prop} (hl:s.heap.get? l=some (lstObj #[v] k))
  (h:Q (.ref s.heap.objs.size) { s with heap:=s.heap.push { cls:=.type "list",data:=.seq #[v,v] } }):wpAny (model prog w) A (binaryOp .Mult (.ref l) (.int 2 u)) Q E s :=
 wpAny_binaryOp_repeat_ref (T:="list") (U:="int") (by decide) ⟨_,hl,rfl⟩ (fun s'=>typeIs_int s' 2 u) noFill_list_mul PySem.F.fills_int_mul PySem.F.slot_int_rmul repeat_list PySem.F.slot_int_index.lookup
  (call_meets PySem.F.slot_int_rmul (typeIs_int s 2 u) PySem.F.entry_int_rmul (PySem.F.args_int_rmul_2 _ _) (int___rmul___int_list 2 u l #[v] k)
   ⟨hl,rfl,⟨_,hl,rfl⟩,call_meets PySem.F.slot_list_mul ⟨_,hl,rfl⟩ PySem.F.entry_list_mul (PySem.F.args_list_mul_2 _ _)
    (AutoListH.list___mul___list_int_3 l #[v] k 2 u (by simp [Builtin.List.listFitsIndex]) (by simp) (by simp [Builtin.List.listTooLong,sizeLine]))
    ⟨hl,h⟩⟩)
theorem EX_ForZip {x:Str} {es:List Expr} {tn:Nat} {tp pos p0 p1 p2 p3 p4 p5 p6 p7 p8:Pos} {kd:Nat} {body orelse:List Stmt} {ps:List PV} {P:Fl→AS→Prop} (hk:FnEnv F) (hr:Rm A 0) (hzip:g.Blt "zip" (.type "zip")) (hiter:g.Blt "iter" (.builtin "iter"))
  (hx:σ.loc.lookup x=some (.lst ps)) (hev:∃ m,ps.length=2 * m) (h:ForZ g A F (.Tuple es tn tp) body orelse (pairUp ps) σ P)
  (hd:(x == ("__debug__":Str))=false:=by decide) (hc:(x == Str.ofString "__classdict__")=false:=by decide)
  (hkz:F.env.kindOf "zip" = some .globalImplicit:=by with_unfolding_all rfl) (hki:F.env.kindOf "iter" = some .globalImplicit:=by with_unfolding_all rfl)
  (he1:eval (.Call (.Name "zip" p0) [.Starred (.BinOp (.List [.Call (.Name "iter" p1) [.Name x p2] [] p3] p4) .Mult (.Constant (.int 2) kd p5) p6) p7] [] p8) F.env =
   (do callWith p8 (← eval (.Name "zip" p0) F.env) [] [(true,do let v ← eval (.BinOp (.List [.Call (.Name "iter" p1) [.Name x p2] [] p3] p4) .Mult (.Constant (.int 2) kd p5) p6) F.env; standAt p8; pure v)] []):=by with_unfolding_all rfl)
  (he2:eval (.Call (.Name "iter" p1) [.Name x p2] [] p3) F.env=(do callWith p3 (← eval (.Name "iter" p1) F.env) [] (backTo p3 (starEach [.Name x p2] F.env)) (backToKw p3 (keywordEach [] F.env))):=by with_unfolding_all rfl)
  (hn2:(backTo p3 (starEach [.Name x p2] F.env)).any (·.1)=false:=by with_unfolding_all rfl)
  (hst2:starEach [.Name x p2] F.env=(false,eval (.Name x p2) F.env) :: starEach [] F.env:=by with_unfolding_all rfl)
  (hst:starEach [.Call (.Name "iter" p1) [.Name x p2] [] p3] F.env=(false,eval (.Call (.Name "iter" p1) [.Name x p2] [] p3) F.env) :: starEach [] F.env:=by with_unfolding_all rfl)
  (hs:∀ y,foldedSetIterable (.Call (.Name "zip" p0) [.Starred (.BinOp (.List [.Call (.Name "iter" p1) [.Name x p2] [] p3] p4) .Mult (.Constant (.int 2) kd p5) p6) p7] [] p8) F.env y=pure y:=by intro _; with_unfolding_all rfl) :
  EX g A F (.For (.Tuple es tn tp) (.Call (.Name "zip" p0) [.Starred (.BinOp (.List [.Call (.Name "iter" p1) [.Name x p2] [] p3] p4) .Mult (.Constant (.int 2) kd p5) p6) p7] [] p8) body orelse pos) σ P:=by
 intro s S Q E k
 refine wpAny_For ?_ hs
 rw [he1]
 refine wpAny_bind (raw_blt S.old hk.kind hk.gl hk.bl hzip ?_ hkz)
 unfold callWith
 refine wpAny_bind (wpAny_holding ?_)
 unfold evalArgs
 refine wpAny_bind (wpAny_bind ?_)
 refine wpAny_BinOp (List_ ?_)
 refine args_cons ?_ hst
 rw [he2]
 refine wpAny_bind (raw_blt S.old hk.kind hk.gl hk.bl hiter ?_ hki)
 have hE:EVs g A F [.Name x p2] σ (fun qs σ₂=>qs=[.lst ps]∧σ₂=σ):=EVs_cons (P:=fun qs σ₂=>qs=[.lst ps]∧σ₂=σ) (EV_local hk hx (EVs_nil ⟨rfl,rfl⟩) hd hc) hst2
 refine callWith_flat rfl hn2 (evalArgs_EVs hE hn2 S fun vs qs σ₁ s₁ hq S₁ hvs st₁=>?_)
 obtain ⟨rfl,e⟩:=hq
 subst e
 cases hvs with
 | cons hv hvs =>
 cases hvs
 cases hv with
 | @lst _ l items n hlo ho hl =>
 refine call_iter_list ho ?_
 have S₂:=S₁.newObj { cls:=.type "list_iterator",data:=.fields #[.ref l,.int 0 0] } (fun _ q=>nomatch q) (fun q=>nomatch q)
 obtain ⟨h₁,gg,dd,tk,os⟩:=s₁
 dsimp only at S₂ ho ⊢
 refine spliced_nil ?_
 refine wpAny_newList ?_ (by simp [sizeLine])
 have hI:(h₁.push { cls:=.type "list_iterator",data:=.fields #[.ref l,.int 0 0] }).get? h₁.objs.size=some { cls:=.type "list_iterator",data:=.fields #[.ref l,.int 0 0] }:=Heap.get?_push_size _ rfl
 obtain ⟨S₂,st₂⟩:=S₂
 have S₃:=S₂.push { cls:=.type "list",data:=.seq #[.ref h₁.objs.size] }
 have st₃:Stp [] _ _ _ _:=st₂.trans (.push { cls:=.type "list",data:=.seq #[.ref h₁.objs.size] })
 refine EV_int (P:=fun p τ=>p=.int 2∧τ=⟨σ₁.loc,(h₁.objs.size,.obj { cls:=.type "list_iterator",data:=.fields #[.ref l,.int 0 0] }) :: σ₁.zone⟩) ⟨rfl,rfl⟩ _ S₃ _ E fun u p σ₃ s₄ hp S₄ hu st₄=>?_
 obtain ⟨rfl,e⟩:=hp
 subst e
 cases hu
 have hIo:h₁.objs.size∉σ₁.own:=fun q=>Nat.lt_irrefl _ (S₁.own_lt q)
 have hL0:((h₁.push { cls:=.type "list_iterator",data:=.fields #[.ref l,.int 0 0] }).push { cls:=.type "list",data:=.seq #[.ref h₁.objs.size] }).get? (h₁.push { cls:=.type "list_iterator",data:=.fields #[.ref l,.int 0 0] }).objs.size=some (lstObj #[.ref h₁.objs.size] 0):=Heap.get?_push_size _ rfl
 have hL0o:(h₁.push { cls:=.type "list_iterator",data:=.fields #[.ref l,.int 0 0] }).objs.size∉AS.own ⟨σ₁.loc,(h₁.objs.size,.obj { cls:=.type "list_iterator",data:=.fields #[.ref l,.int 0 0] }) :: σ₁.zone⟩:=fun q=>Nat.lt_irrefl _ (S₂.own_lt q)
 have hL0':=st₄.keep _ _ hL0 (by simp) hL0o (.inl (fun q=>nomatch q))
 refine mul_one_list hL0' ?_
 refine wpAny_bind (wpAny_standAt (wpAny_pure (wpAny_bind (wpAny_pure ?_))))
 refine wpAny_holding ?_
 show wpAny _ A (pure []>>=_) _ _ _
 refine wpAny_bind (wpAny_pure (wpAny_bind (wpAny_bind ?_)))
 have hL1:(s₄.heap.push { cls:=.type "list",data:=.seq #[.ref h₁.objs.size,.ref h₁.objs.size] }).get? s₄.heap.objs.size=some (lstObj #[.ref h₁.objs.size,.ref h₁.objs.size] 0):=Heap.get?_push_size _ rfl
 have S₅:=S₄.push { cls:=.type "list",data:=.seq #[.ref h₁.objs.size,.ref h₁.objs.size] }
 have st₅:Stp [] _ _ _ _:=st₄.trans (.push { cls:=.type "list",data:=.seq #[.ref h₁.objs.size,.ref h₁.objs.size] })
 have hT:Heap.IsList (s₄.heap.push { cls:=.type "list",data:=.seq #[.ref h₁.objs.size,.ref h₁.objs.size] }) s₄.heap.objs.size #[.ref h₁.objs.size,.ref h₁.objs.size]:=⟨_,hL1,rfl,_,rfl⟩
 unfold notIterableAtAll
 refine wpAny_bind (wpAny_specialOf hT.typeIs PySem.F.slot_list_iter.lookup ?_)
 refine wpAny_pure ?_
 show wpAny _ A (holding [] (collect (.ref s₄.heap.objs.size))) _ _ _
 refine wpAny_holding (wpAny_collect_seq _ (.inl rfl) hL1 rfl rfl (fun h₆ hk₆=>?_) (by simp [sizeLine]))
 refine wpAny_pure ?_
 refine wpAny_bind (wpAny_standAt ?_)
 refine wpAny_bind (wpAny_pure ?_)
 show wpAny _ A (operate _ (call (.type "zip") [.ref h₁.objs.size,.ref h₁.objs.size] [])>>=_) _ _ _
 have S₆:=S₅.keeps (h':=h₆) (tk:=s₄.toks) hk₆
 have st₆:Stp [] _ _ _ _:=st₅.trans (Stp.keeps (h':=h₆) (tk:=s₄.toks) hk₆)
 have hI₆:Heap.IsListIter h₆ h₁.objs.size l 0:=by
  have:=(S₆.zs (h₁.objs.size,.obj { cls:=.type "list_iterator",data:=.fields #[.ref l,.int 0 0] }) List.mem_cons_self).1
  exact ⟨_,this,rfl,rfl⟩
 refine wpAny_bind (wpAny_operating (call_zip1 (k:=0) (l:=l) hI₆ ?_))
 refine wpAny_bind (wpAny_holding (wpAny_point ?_))
 refine wpAny_pure ?_
 dsimp only at S₆ st₆ ⊢
 have S₇:=S₆.push { cls:=.type "tuple",data:=.seq #[.ref h₁.objs.size,.ref h₁.objs.size] }
 have st₇:=st₆.trans (Stp.push (s:={ s₄ with heap:=h₆,toks:=s₄.toks }) { cls:=.type "tuple",data:=.seq #[.ref h₁.objs.size,.ref h₁.objs.size] })
 obtain ⟨S₈,st₈⟩:=S₇.newObj { cls:=.type "tuple",data:=.seq #[.none,.none] } (fun _ q=>nomatch q) (fun q=>nomatch q)
 obtain ⟨S₉,st₉⟩:=S₈.newObj { cls:=.type "zip",data:=.fields #[.none,.bool false,.bool false,.ref h₆.objs.size,.ref (h₆.objs.size + 1)] } (fun _ q=>nomatch q) (fun q=>nomatch q)
 have stt:=st₇.trans (st₈.trans st₉)
 dsimp only at S₉ stt
 rw [Heap.size_push,Heap.size_push] at S₉ stt
 obtain ⟨SA,stA⟩:=Weak.rot (g:=g) (F:=F) (loc:=σ₁.loc) [(h₆.objs.size + 1 + 1,MO.obj { cls:=.type "zip",data:=.fields #[.none,.bool false,.bool false,.ref h₆.objs.size,.ref (h₆.objs.size + 1)] }),(h₆.objs.size + 1,.obj { cls:=.type "tuple",data:=.seq #[.none,.none] }),(h₁.objs.size,.obj { cls:=.type "list_iterator",data:=.fields #[.ref l,.int 0 0] })] σ₁.zone _ S₉
 have hl1:@LT.lt Nat instLTNat l h₁.objs.size:=Heap.lt_size ho
 have hI1:h₁.objs.size < h₆.objs.size:=by obtain ⟨o,e,_⟩:=hI₆; exact Heap.lt_size e
 have hz:=(SA.zs (h₆.objs.size + 1 + 1,MO.obj { cls:=.type "zip",data:=.fields #[.none,.bool false,.bool false,.ref h₆.objs.size,.ref (h₆.objs.size + 1)] }) (by simp)).1
 have hTO:=(SA.zs (h₆.objs.size + 1,.obj { cls:=.type "tuple",data:=.seq #[.none,.none] }) (by simp)).1
 have hit:=(SA.zs (h₁.objs.size,.obj { cls:=.type "list_iterator",data:=.fields #[.ref l,.int 0 0] }) (by simp)).1
 have stB:Stp [] σ₁.own _ _ _:=st₂.trans ((Stp.push { cls:=.type "list",data:=.seq #[.ref h₁.objs.size] }).trans (stt.trans stA))
 have stAll:Stp [] σ₁.own _ _ _:=st₁.trans stB
 refine wpAny_pyIter_zip hz ?_
 have hTI:IsPair (((h₆.push { cls:=.type "tuple",data:=.seq #[.ref h₁.objs.size,.ref h₁.objs.size] }).push { cls:=.type "tuple",data:=.seq #[.none,.none] }).push { cls:=.type "zip",data:=.fields #[.none,.bool false,.bool false,.ref h₆.objs.size,.ref (h₆.objs.size + 1)] }) h₆.objs.size (.ref h₁.objs.size) (.ref h₁.objs.size):=Heap.get?_push_of_some _ (Heap.get?_push_of_some _ (Heap.get?_push_size _ rfl))
 have hown:=own_tail (loc:=σ₁.loc) (zone:=σ₁.zone) (z:=h₆.objs.size + 1 + 1) (TO:=h₆.objs.size + 1) (i:=h₁.objs.size) (oz:={ cls:=.type "zip",data:=.fields #[.none,.bool false,.bool false,.ref h₆.objs.size,.ref (h₆.objs.size + 1)] }) (ot:={ cls:=.type "tuple",data:=.seq #[.none,.none] }) (oi:={ cls:=.type "list_iterator",data:=.fields #[.ref l,.int 0 0] })
 have hle:∀ a∈σ₁.own,a < h₁.objs.size:=fun a ha=>S₁.own_lt ha
 have kpAll:=S₁.kp stB
 obtain ⟨g1,g2⟩:=kpAll l _ _ _ ho rfl hlo
 refine zfor_run (σ:=σ₁) (ps:=ps) (n:=0) hr (s₀:=s) (own₀:=σ₁.own) (fun a ha=>?_) (fun f fl σ' s' h' S' hr' st'=>k f fl σ' s' h' S' hr' st') hev SA stAll.up ⟨⟨_,_,_,rfl⟩,hz,hTI,⟨_,_,hTO⟩,⟨_,hit,rfl,rfl⟩,⟨_,_,g1,hl.mono kpAll⟩,?_,g2,⟨ne_nat (by omega),ne_nat (by omega),ne_nat (by omega),ne_nat (by omega),ne_nat (by omega),ne_nat (by omega),ne_nat (by omega),ne_nat (by omega),ne_nat (by omega)⟩⟩ h
 ·cases q:s.heap.get? a with
  | none=>rfl
  | some o =>
   obtain ⟨o',e'⟩:=st₁.there a o q
   have hlt:@LT.lt Nat instLTNat a h₁.objs.size:=Heap.lt_size e'
   rcases List.mem_cons.mp ha with q | ha
   ·have q':@Eq Nat a _:=q
    omega
   ·rcases List.mem_cons.mp ha with q | ha
    ·have q':@Eq Nat a _:=q
     omega
    ·have q':@Eq Nat a _:=List.mem_singleton.mp ha
     omega
 ·rw [hown]
  intro q
  rcases List.mem_append.mp q with q | q
  ·have q':@LT.lt Nat instLTNat _ _:=hle _ q
   omega
  ·rcases List.mem_cons.mp q with q | q
   ·have q':@Eq Nat _ _:=q
    omega
   ·rcases List.mem_cons.mp q with q | q
    ·have q':@Eq Nat _ _:=q
     omega
    ·have q':@Eq Nat _ _:=List.mem_singleton.mp q
     omega
end
end Mine
end SM40
section SM41
open PySem PySem.Calls PyProof.Rows PySem.W PySem.Builtin
namespace Mine
section
variable {g:Gl} {A:Around} {F:Fm} {σ:AS} {s:Shared} {P:PV→AS→Prop} {value slice:Expr}
theorem EX_SetSlice_z {o:Expr} {lower upper:Option Expr} {pp tpos pos:Pos} {P:Fl→AS→Prop}
  (h:EV g A F value σ fun q σ₀=>EV g A F o σ₀ fun p σ₁=>PT g A F lower σ₁ fun lo σ₂=>PT g A F upper σ₂ fun hi σ₃=>∃ x l ps zone',p=.raw (.ref x)∧q=.lst ps ∧
   ZAt x (.list l) (.list (l.take (slo l.length lo)++ps++l.drop (max (slo l.length lo) (shi l.length hi)))) σ₃.zone zone'∧l.length + ps.length≤1000000∧P .next ⟨σ₃.loc,zone'⟩)
  (hs:swapsWith value (some (.Subscript o (.Slice lower upper none pp) tpos)) pos.line F.env=pure false:=by with_unfolding_all rfl):EX g A F (.Assign [.Subscript o (.Slice lower upper none pp) tpos] value pos) σ P:=by
 intro s S Q E k
 refine wpAny_Assign_Subscript (h s S _ E fun w q σ₀ s₀ h₀ S₀ hq st₀=>?_) hs
 refine h₀ s₀ S₀ _ E fun v p σ₁ s₁ h₁ S₁ hv st₁=>?_
 refine wpAny_Slice (h₁ s₁ S₁ _ E fun vl lo σ₂ s₂ h₂ S₂ hl st₂=>h₂ s₂ S₂ _ E fun vu hi σ₃ s₃ h₃ S₃ hu st₃=>?_)
 rw [evalPart_none]
 obtain ⟨x,l,ps,zone',rfl,rfl,U,hlen,hP⟩:=h₃
 cases hv
 have S₄:=S₃.push { cls:=.type "slice",data:=.fields #[vl,vu,.none] }
 have st₄:Stp [] σ₀.own s₀ σ₃.own _:=st₁.trans (st₂.trans (st₃.trans (Stp.push { cls:=.type "slice",data:=.fields #[vl,vu,.none] })))
 obtain ⟨pre,post,e1,e2⟩:=U.split
 have hz:(x,MO.list l)∈σ₃.zone:=by rw [e1]; simp
 obtain ⟨items,m,h1,hit⟩:=S₄.zs _ hz
 have hsz:=hit.toArray
 have hx:x∈σ₃.own:=List.mem_flatMap.mpr ⟨_,hz,by simp [MO.addrs]⟩
 have hq':=hq.mono (S₀.kp st₄)
 cases hq' with
 | @lst _ D its nv ha hD hits =>
 have hxD:x≠D:=fun q=>ha (q ▸ hx)
 have hsz2:=hits.toArray
 have hT:Heap.IsList (s₃.heap.push { cls:=.type "slice",data:=.fields #[vl,vu,.none] }) x items:=⟨_,h1,rfl,_,rfl⟩
 refine wpAny_pure ?_
 unfold setItem
 refine wpAny_holding (wpAny_bind (wpAny_sequenceKey hT.typeIs (by decide) ?_))
 refine wpAny_bind (wpAny_callSpecial?_slot (name:=Str.ofString "__setitem__") hT.typeIs slot_list_setitem
  (wpAny_call_entry slot_list_setitem hT.typeIs entry_list_setitem ?_ (args_list_setitem _ _ _)))
 refine run_setitem_slice h1 rfl (by omega) hxD (Heap.IsSliceOf.new _ _ _ _) hl hu hD fun h' m' hsb hg=>⟨_,rfl,?_⟩
 obtain ⟨S',st'⟩:=S₄.upd U rfl (h':=h') (fun b o hb e=>hsb.extBut b o (fun q=>hb (by simp [MO.addrs,q])) e) fun kp=>⟨_,m',hg,(VRs.cut hit hits lo hi).mono kp⟩
 exact wpAny_pure (k .next .next _ _ hP S' .next (Stp.up (st₀.trans (st₄.trans st'))))
theorem CL_pop0 {D:Addr} {l:List PV} {p:PV} {zone':List (Addr × MO)} (U:ZAt D (.list (p :: l)) (.list l) σ.zone zone') (hl:l.length≤1000000) (h:P p ⟨σ.loc,zone'⟩):CL g A F (.builtin "list.pop") [.raw (.ref D),.int 0] σ P:=fun s vs S hvs Q E k=>by
 cases hvs with | cons hv hs'=>cases hs' with | cons hu hs'=>cases hs'; cases hv; cases hu; (
  obtain ⟨pre,post,e1,e2⟩:=U.split
  obtain ⟨items,m,h1,h2⟩:=S.zs (D,.list (p :: l)) (by rw [e1]; simp)
  have hT:s.heap.IsList D items:=⟨_,h1,rfl,_,rfl⟩
  obtain ⟨v,us,hlist,hv2,hus⟩:∃ v us,items.toList=v :: us∧VR s.heap σ.own p v∧VRs s.heap σ.own l us:=by
   generalize items.toList=L at h2
   cases h2 with | cons a b=>exact ⟨_,_,rfl,a,b⟩
  have hul:=hus.length
  have hitems:items=(v :: us).toArray:=by rw [← hlist]
  subst hitems
  refine wpAny_call_entry PySem.F.slot_list_pop hT.typeIs PySem.F.entry_list_pop ?_ (PySem.F.args_list_pop_2 _ _)
  show wpAny _ _ (Builtin.List.listItems (.ref D)>>=_) _ _ s
  unfold Builtin.List.listItems
  refine wpAny_bind (wpAny_bind (wpAny_seqItems h1 rfl (wpAny_pure ?_)))
  have hidx:seqIndex? 0 (v :: us).toArray.size=some 0:=StrLaws.seqIndex_nonneg (by decide) (by simp)
  have hget:(v :: us).toArray[0]?=some v:=by simp
  have hne:(v :: us).toArray.isEmpty=false:=rfl
  dsimp only
  rw [hne,if_neg (by decide),hidx]
  simp only [Option.bind_some,hget,Option.map_some]
  have herase:((v :: us).toArray.eraseIdxIfInBounds 0).toList=us:=by
   rw [Array.toList_eraseIdxIfInBounds]; rfl
  refine wpAny_bind (m:=updateSeq D fun y=>y.eraseIdxIfInBounds 0) (wpAny_updateSeq h1 rfl ?_ (by have:sizeLine=16777216:=rfl; simp; omega) (by
   have:sizeLine=16777216:=rfl
   rw [← Array.length_toList,herase]; omega))
  have hs:Heap.SameBut D s.heap (s.heap.update D (Obj.mapSeq fun y=>y.eraseIdxIfInBounds 0)):=.update ..
  have hg:=Heap.get?_update_self (Obj.mapSeq fun y=>y.eraseIdxIfInBounds 0) h1 (by simp [Obj.mapSeq,Obj.isFreed])
  have hm:∃ m',Obj.mapSeq (fun y=>y.eraseIdxIfInBounds 0) (lstObj (v :: us).toArray m)=lstObj ((v :: us).toArray.eraseIdxIfInBounds 0) m':=⟨_,rfl⟩
  obtain ⟨m',hm⟩:=hm
  obtain ⟨S',st⟩:=S.upd U rfl (h':=s.heap.update D (Obj.mapSeq fun y=>y.eraseIdxIfInBounds 0)) (fun b o hb e=>hs.extBut b o (fun q=>hb (by simp [MO.addrs,q])) e) fun kp=>⟨_,m',hg.trans (congrArg some hm),by rw [herase]; exact hus.mono kp⟩
  exact wpAny_pure ⟨_,rfl,k _ _ _ _ h S' (hv2.mono (S.kp st)) st⟩)
theorem MT_pop {D:Addr} {l:List PV} (hz:(D,.list l)∈σ.zone):MT g A F (.raw (.ref D)) "pop" "list.pop" σ:=MT_list hz PySem.F.slot_list_pop PySem.F.type_list_pop
end
end Mine
end SM41
section SM42
open PySem PySem.Calls PyProof.Rows PySem.W PySem.Builtin PySem.Builtin.Re
namespace Mine
namespace Rx
open PySem.Sre
def cd:Array Nat:=#[14,4,0,1,4294967295,17,0,24,11,1,4294967295,13,6,16,32,16,9,0,1,17,1,1]
def fr (s:Nat) (o:Bool):Sre.Frame:={ wait:=.nextStart,pc:=5,pos:=s,outermost:=o }
def fr2 (p n:Nat) (o:Bool) (l li:Int):Sre.Frame:={ wait:=.giveBack,pc:=7,pos:=p,outermost:=o,count:=n,kept:={ lastmark:=l,lastindex:=li } }
def m0 (text:Array Nat) (lim s:Nat) (o:Bool) (a b:Option Nat) (seen:Sre.Seen):M :=
 { code:=cd,text,lim,start:=s,lastStart:=lim,pc:=5,pos:=s,handed:=s,outermost:=o,marks:=#[a,b],frames:=[fr s o],weight:=1,seen }
def m1 (text:Array Nat) (lim s:Nat) (o:Bool) (b:Option Nat) (seen:Sre.Seen):M :=
 { code:=cd,text,lim,start:=s,lastStart:=lim,pc:=7,pos:=s,handed:=s,outermost:=o,marks:=#[some s,b],lastmark:=0,frames:=[fr s o],weight:=1,seen }
theorem step0 {text:Array Nat} {lim s:Nat} {o:Bool} {a b:Option Nat} {seen:Sre.Seen}:∃ seen',(m0 text lim s o a b seen).step=m1 text lim s o b seen':=⟨_,rfl⟩
def isWs (c:Nat):Bool:=c == 32 || c == 9
theorem acc (c:Nat) (seen:Sre.Seen):∃ seen',accepts cd 11 c seen=.ok (isWs c,seen'):=by
 unfold isWs
 show ∃ seen',(if (c == 32)=true then Except.ok (true,seen.add 16) else if (c == 9)=true then Except.ok (true,(seen.add 16).add 16) else Except.ok (false,((seen.add 16).add 16).add 0))=_
 cases c == 32 <;> cases c == 9 <;> exact ⟨_,rfl⟩
def wsRun (text:Array Nat):Nat→Nat→Nat
 | 0,_=>0
 | n + 1,p=>if isWs (text.getD p 0) then wsRun text n (p + 1) + 1 else 0
theorem run_eq (text:Array Nat):∀ (n p k:Nat) (seen:Sre.Seen),∃ seen',Sre.run cd text 11 n p k seen=.ok (k + wsRun text n p,seen')
 | 0,p,k,seen=>⟨_,rfl⟩
 | n + 1,p,k,seen=>by
  obtain ⟨s1,e1⟩:=acc (text.getD p 0) seen
  unfold Sre.run wsRun
  rw [e1]
  cases hw:isWs (text.getD p 0) with
  | false=>exact ⟨s1,rfl⟩
  | true =>
   obtain ⟨s2,e2⟩:=run_eq text n (p + 1) (k + 1) s1
   refine ⟨s2,?_⟩
   show Sre.run cd text 11 n (p + 1) (k + 1) s1=_
   rw [e2]
   simp only [if_true]
   congr 2
   omega
def m2 (text:Array Nat) (lim s n:Nat) (o:Bool) (b:Option Nat) (seen:Sre.Seen):M :=
 { code:=cd,text,lim,start:=s,lastStart:=lim,pc:=19,pos:=s + n,handed:=s + n,outermost:=o,marks:=#[some s,b],lastmark:=0,frames:=[fr2 (s + n) n o 0 (-1),fr s o],weight:=2,seen }
theorem step1_eq {text:Array Nat} {lim s:Nat} {o:Bool} {b:Option Nat} {seen:Sre.Seen}:(m1 text lim s o b seen).step =
  if ((1:Nat):Int) > (lim:Int) - (s:Int) then M.say { m1 text lim s o b seen with seen:=seen.add 24 } false
  else match Sre.run cd text 11 (min 4294967295 ((lim:Int) - (s:Int)).toNat) s 0 ((seen.add 24).add 13) with
   | .error why=>M.stick { m1 text lim s o b seen with seen:=seen.add 24 } why
   | .ok (n,seen')=>if n < 1 then M.say { m1 text lim s o b seen with seen:=seen' } false else M.afterRun { m1 text lim s o b seen with seen:=seen',pos:=s + n } .giveBack n (M.keep { m1 text lim s o b seen with seen:=seen',pos:=s + n } false):=rfl
theorem step1_no {text:Array Nat} {lim s:Nat} {o:Bool} {b:Option Nat} {seen:Sre.Seen} (hl:lim≤1000000) (hs:s≤lim) (h:wsRun text (lim - s) s=0):∃ seen',(m1 text lim s o b seen).step=M.say (m1 text lim s o b seen') false:=by
 rw [step1_eq]
 by_cases h1:((1:Nat):Int) > (lim:Int) - (s:Int)
 ·rw [if_pos h1]; exact ⟨_,rfl⟩
 ·rw [if_neg h1]
  have e:min 4294967295 ((lim:Int) - (s:Int)).toNat=lim - s:=by omega
  rw [e]
  obtain ⟨s1,e1⟩:=run_eq text (lim - s) s 0 ((seen.add 24).add 13)
  rw [e1,h]
  exact ⟨s1,rfl⟩
theorem step1_yes {text:Array Nat} {lim s n:Nat} {o:Bool} {b:Option Nat} {seen:Sre.Seen} (hl:lim≤1000000) (hs:s < lim) (h:wsRun text (lim - s) s=n + 1):∃ seen',(m1 text lim s o b seen).step=m2 text lim s (n + 1) o b seen':=by
 rw [step1_eq,if_neg (by omega)]
 have e:min 4294967295 ((lim:Int) - (s:Int)).toNat=lim - s:=by omega
 rw [e]
 obtain ⟨s1,e1⟩:=run_eq text (lim - s) s 0 ((seen.add 24).add 13)
 rw [e1,h]
 refine ⟨s1,?_⟩
 show (if 0 + (n + 1) < 1 then _ else _)=_
 rw [if_neg (by omega),Nat.zero_add]
 rfl
def m3 (text:Array Nat) (lim s n:Nat) (o:Bool) (seen:Sre.Seen):M :=
 { code:=cd,text,lim,start:=s,lastStart:=lim,pc:=21,pos:=s + n,handed:=s + n,outermost:=o,marks:=#[some s,some (s + n)],lastmark:=1,lastindex:=1,frames:=[fr2 (s + n) n o 0 (-1),fr s o],weight:=2,seen }
theorem step2 {text:Array Nat} {lim s n:Nat} {o:Bool} {b:Option Nat} {seen:Sre.Seen}:∃ seen',(m2 text lim s n o b seen).step=m3 text lim s n o seen':=⟨seen.add 17,by
 show M.mark { m2 text lim s n o b seen with seen:=seen.add 17 } 1=_
 unfold M.mark m2 m3
 rfl⟩
def m4 (text:Array Nat) (lim s n:Nat) (o:Bool) (seen:Sre.Seen):M :=
 { code:=cd,text,lim,start:=s,lastStart:=lim,pc:=5,pos:=s,handed:=s + n,outermost:=o,marks:=#[some s,some (s + n)],lastmark:=1,lastindex:=1,frames:=[],weight:=0,seen,answer:=some true,outcome:=some .matched }
theorem step3 {text:Array Nat} {lim s n:Nat} {o:Bool} {seen:Sre.Seen}:∃ seen',(m3 text lim s n o seen).step.step.step.step=m4 text lim s n o seen':=by
 have e:∃ seen',(m3 text lim s n o seen).step=M.say (m3 text lim s n o seen') true:=by cases o <;> exact ⟨_,rfl⟩
 obtain ⟨s1,e1⟩:=e
 rw [e1]
 exact ⟨s1,rfl⟩
theorem found {text:Array Nat} {lim s n:Nat} {o:Bool} {a b:Option Nat} {seen:Sre.Seen} (hl:lim≤1000000) (hs:s < lim) (h:wsRun text (lim - s) s=n + 1):∃ seen',(m0 text lim s o a b seen).step.step.step.step.step.step.step=m4 text lim s (n + 1) o seen':=by
 obtain ⟨s1,e1⟩:=step0 (text:=text) (lim:=lim) (s:=s) (o:=o) (a:=a) (b:=b) (seen:=seen)
 rw [e1]
 obtain ⟨s2,e2⟩:=step1_yes (o:=o) (b:=b) (seen:=s1) hl hs h
 rw [e2]
 obtain ⟨s3,e3⟩:=step2 (text:=text) (lim:=lim) (s:=s) (n:=n + 1) (o:=o) (b:=b) (seen:=s2)
 rw [e3]
 exact step3
theorem next {text:Array Nat} {lim s:Nat} {o:Bool} {a b:Option Nat} {seen:Sre.Seen} (hl:lim≤1000000) (hs:s < lim) (h:wsRun text (lim - s) s=0):∃ seen',(m0 text lim s o a b seen).step.step.step=m0 text lim (s + 1) false (some s) b seen':=by
 obtain ⟨s1,e1⟩:=step0 (text:=text) (lim:=lim) (s:=s) (o:=o) (a:=a) (b:=b) (seen:=seen)
 rw [e1]
 obtain ⟨s2,e2⟩:=step1_no (o:=o) (b:=b) (seen:=s1) hl (Nat.le_of_lt hs) h
 rw [e2]
 have:(M.say (m1 text lim s o b s2) false).step=if s < lim then M.attemptFrom { m1 text lim s o b s2 with pc:=5,frames:=[],weight:=0,outermost:=o,mustAdvance:=false } (s + 1) false else M.say { m1 text lim s o b s2 with pc:=5,frames:=[],weight:=0,outermost:=o } false:=rfl
 rw [this,if_pos hs]
 exact ⟨_,rfl⟩
def m5 (text:Array Nat) (lim s:Nat) (o:Bool) (b:Option Nat) (seen:Sre.Seen):M :=
 { code:=cd,text,lim,start:=s,lastStart:=lim,pc:=5,pos:=s,handed:=s,outermost:=o,marks:=#[some s,b],lastmark:=0,frames:=[],weight:=0,seen,answer:=some false,outcome:=some .failed }
theorem last {text:Array Nat} {lim:Nat} {o:Bool} {a b:Option Nat} {seen:Sre.Seen} (hl:lim≤1000000):∃ seen',(m0 text lim lim o a b seen).step.step.step.step=m5 text lim lim o b seen':=by
 obtain ⟨s1,e1⟩:=step0 (text:=text) (lim:=lim) (s:=lim) (o:=o) (a:=a) (b:=b) (seen:=seen)
 rw [e1]
 obtain ⟨s2,e2⟩:=step1_no (s:=lim) (o:=o) (b:=b) (seen:=s1) hl (Nat.le_refl _) (by rw [Nat.sub_self]; rfl)
 rw [e2]
 have:(M.say (m1 text lim lim o b s2) false).step=if lim < lim then M.attemptFrom { m1 text lim lim o b s2 with pc:=5,frames:=[],weight:=0,outermost:=o,mustAdvance:=false } (lim + 1) false else M.say { m1 text lim lim o b s2 with pc:=5,frames:=[],weight:=0,outermost:=o } false:=rfl
 rw [this,if_neg (Nat.lt_irrefl _)]
 exact ⟨_,rfl⟩
theorem runFor_stop {m:M} (h:m.outcome.isSome=true):∀ n,M.runFor n m=m
 | 0=>rfl
 | n + 1=>by unfold M.runFor; rw [if_pos h]
theorem step_stop {m:M} (h:m.outcome.isSome=true):m.step=m:=by unfold M.step; rw [if_pos h]
theorem runFor_step (m:M) (n:Nat):M.runFor (n + 1) m=M.runFor n m.step:=by
  cases h : m.outcome.isSome with
  | true => rw [runFor_stop h, step_stop h, runFor_stop h]
  | false => conv => lhs; unfold M.runFor
             rw [h]; rfl
theorem runFor_add (a b:Nat) (m:M):M.runFor (a + b) m=M.runFor b (M.runFor a m):=by
 induction a generalizing m with
 | zero=>rw [Nat.zero_add]; rfl
 | succ a ih=>rw [Nat.succ_add,runFor_step,runFor_step,ih]
def nextWs (text:Array Nat) (lim:Nat):Nat→Nat→Option (Nat × Nat)
 | 0,_=>none
 | d + 1,s=>match wsRun text (lim - s) s with
  | 0=>nextWs text lim d (s + 1)
  | n + 1=>some (s,n + 1)
def Ended (text:Array Nat) (lim:Nat) (r:Option (Nat × Nat)) (m:M):Prop:=match r with
 | some (s,n)=>∃ o seen,m=m4 text lim s n o seen
 | none=>∃ o b seen,m=m5 text lim lim o b seen
theorem search {text:Array Nat} {lim:Nat} (hl:lim≤1000000):∀ (d s:Nat) (o:Bool) (a b:Option Nat) (seen:Sre.Seen),s + d=lim→∃ N,N≤3 * d + 7∧Ended text lim (nextWs text lim d s) (M.runFor N (m0 text lim s o a b seen))
 | 0,s,o,a,b,seen,h=>by
  rw [Nat.add_zero] at h
  subst h
  obtain ⟨s1,e⟩:=last (text:=text) (lim:=s) (o:=o) (a:=a) (b:=b) (seen:=seen) hl
  refine ⟨4,by omega,o,b,s1,?_⟩
  rw [← e]
  rw [show (4:Nat)=3 + 1 from rfl,runFor_step,show (3:Nat)=2 + 1 from rfl,runFor_step,show (2:Nat)=1 + 1 from rfl,runFor_step,show (1:Nat)=0 + 1 from rfl,runFor_step]
  rfl
 | d + 1,s,o,a,b,seen,h=>by
  unfold nextWs
  cases hw:wsRun text (lim - s) s with
  | zero =>
   obtain ⟨s1,e⟩:=next (text:=text) (lim:=lim) (o:=o) (a:=a) (b:=b) (seen:=seen) hl (by omega) hw
   obtain ⟨N,hN,hE⟩:=search hl d (s + 1) false (some s) b s1 (by omega)
   refine ⟨3 + N,by omega,?_⟩
   rw [runFor_add,show (3:Nat)=2 + 1 from rfl,runFor_step,show (2:Nat)=1 + 1 from rfl,runFor_step,show (1:Nat)=0 + 1 from rfl,runFor_step]
   show Ended _ _ _ (M.runFor N (m0 text lim s o a b seen).step.step.step)
   rw [e]
   exact hE
  | succ n =>
   obtain ⟨s1,e⟩:=found (text:=text) (lim:=lim) (o:=o) (a:=a) (b:=b) (seen:=seen) hl (by omega) hw
   refine ⟨7,by omega,o,s1,?_⟩
   rw [← e]
   rw [show (7:Nat)=6 + 1 from rfl,runFor_step,show (6:Nat)=5 + 1 from rfl,runFor_step,show (5:Nat)=4 + 1 from rfl,runFor_step,show (4:Nat)=3 + 1 from rfl,runFor_step,show (3:Nat)=2 + 1 from rfl,runFor_step,show (2:Nat)=1 + 1 from rfl,runFor_step,show (1:Nat)=0 + 1 from rfl,runFor_step]
   rfl
theorem forSearch_eq {text:Array Nat} {lim s:Nat} (h:s≤lim) (hd:1≤lim - s):Sre.forSearch cd text 1 s lim false=m0 text lim s true none none (({}:Sre.Seen).add 14):=by
 have e:Sre.forSearch cd text 1 s lim false=if (decide (s > lim) || decide (lim - s < 1))=true then M.say { code:=cd,text,lim,start:=s,pc:=5,pos:=s,handed:=s,marks:=#[none,none],seen:=({}:Sre.Seen).add 14 } false else m0 text lim s true none none (({}:Sre.Seen).add 14):=rfl
 rw [e,if_neg (by simp; omega)]
theorem forSearch_end {text:Array Nat} {lim:Nat}:Sre.forSearch cd text 1 lim lim false=M.say { code:=cd,text,lim,start:=lim,pc:=5,pos:=lim,handed:=lim,marks:=#[none,none],seen:=({}:Sre.Seen).add 14 } false:=by
 have e:Sre.forSearch cd text 1 lim lim false=if (decide (lim > lim) || decide (lim - lim < 1))=true then M.say { code:=cd,text,lim,start:=lim,pc:=5,pos:=lim,handed:=lim,marks:=#[none,none],seen:=({}:Sre.Seen).add 14 } false else m0 text lim lim true none none (({}:Sre.Seen).add 14):=rfl
 rw [e,if_pos (by simp)]
end Rx
end Mine
end SM42
section SM43
open PySem PySem.Calls PyProof.Rows PySem.W PySem.Builtin PySem.Builtin.Re
namespace Mine
namespace Rx
open PySem.Sre
section
variable {Mo:Model} {A:Around} {E:Value→Shared→Prop} {s:Shared}
theorem drive {Q:M→Shared→Prop}:∀ (turns:Nat) (m:M) (N:Nat),N < 4 * turns→(M.runFor N m).outcome.isSome=true→Q (M.runFor N m) s→wpAny Mo A (reDrive turns m) Q E s
 | 0,m,N,h,_,_=>by omega
 | turns + 1,m,N,h,ho,hq=>by
  unfold reDrive
  show wpAny _ _ (if (M.runFor 4 m).outcome.isSome=true then pure (M.runFor 4 m) else do rule "sre.turn"; reDrive turns (M.runFor 4 m)) _ _ _
  by_cases h4:(M.runFor 4 m).outcome.isSome=true
  ·rw [if_pos h4]
   have e:M.runFor 4 m=M.runFor N m:=by
    by_cases hN:N≤4
    ·have:=runFor_add N (4 - N) m
     rw [show N + (4 - N)=4 by omega,runFor_stop ho] at this
     exact this
    ·have:=runFor_add 4 (N - 4) m
     rw [show 4 + (N - 4)=N by omega,runFor_stop h4] at this
     exact this.symm
   rw [e]
   exact wpAny_pure hq
  ·rw [if_neg h4]
   have hN:4 < N:=by
    refine Nat.lt_of_not_le fun q=>h4 ?_
    have:=runFor_add N (4 - N) m
    rw [show N + (4 - N)=4 by omega,runFor_stop ho] at this
    rw [this]; exact ho
   have e:M.runFor (N - 4) (M.runFor 4 m)=M.runFor N m:=by rw [← runFor_add,show 4 + (N - 4)=N by omega]
   refine wpAny_bind (wpAny_rule (drive turns _ (N - 4) (by omega) (by rw [e]; exact ho) (by rw [e]; exact hq)))
theorem rules_loop {Q:PUnit→Shared→Prop} {m':M}:∀ (l:List Nat),Q PUnit.unit s→wpAny Mo A (forIn l PUnit.unit fun i __s =>
      if m'.seen.has i = true then do
        rule (names.getD i "")
        pure (ForInStep.yield PUnit.unit)
      else pure (ForInStep.yield PUnit.unit)) Q E s
  | [], h => wpAny_pure h
  | i :: l, h => by
    rw [List.forIn_cons]
    cases m'.seen.has i with
    | true => exact wpAny_bind (wpAny_bind (wpAny_rule (wpAny_pure (rules_loop l h))))
    | false => exact wpAny_bind (wpAny_pure (rules_loop l h))
theorem runToEnd {Q:Option M→Shared→Prop} {m:M} {N:Nat} (hN:N < 1000000000) (h:match (M.runFor N m).outcome with | some .matched=>Q (some (M.runFor N m)) s | some .failed=>Q none s | _=>False):wpAny Mo A (reRunToEnd m) Q E s:=by
 unfold reRunToEnd
 refine wpAny_bind (drive (2 ^ 64) m N (by omega) ?_ ?_)
 ·revert h; cases (M.runFor N m).outcome with
  | none=>intro h; exact h.elim
  | some o=>intro _; rfl
 ·generalize M.runFor N m=m' at h
  refine wpAny_bind (rules_loop _ ?_)
  cases ho:m'.outcome with
  | none=>rw [ho] at h; exact h.elim
  | some o=>cases o with
   | matched=>rw [ho] at h; exact wpAny_pure h
   | failed=>rw [ho] at h; exact wpAny_pure h
   | stuck w=>rw [ho] at h; exact h.elim
theorem nextFound {Q:Option M→Shared→Prop} {t:ReTarget} {st:Nat} (hc:t.code=cd) (hg:t.groups=1) (hl:t.lim≤1000000) (hs:st≤t.lim)
  (h:match nextWs t.text t.lim (t.lim - st) st with | some (p,n)=>∀ o seen,Q (some (m4 t.text t.lim p n o seen)) s | none=>Q none s):wpAny Mo A (reNextFound t st false) Q E s:=by
 unfold reNextFound
 rw [hc,hg]
 by_cases hd:1≤t.lim - st
 ·rw [forSearch_eq hs hd]
  obtain ⟨N,hN,hE⟩:=search (text:=t.text) hl (t.lim - st) st true none none (({}:Sre.Seen).add 14) (by omega)
  refine runToEnd (N:=N) (by omega) ?_
  revert h hE
  cases nextWs t.text t.lim (t.lim - st) st with
  | none=>rintro h ⟨o,b,seen,e⟩; rw [e]; exact h
  | some p=>rintro h ⟨o,seen,e⟩; rw [e]; exact h o seen
 ·have e:st=t.lim:=by omega
  subst e
  rw [Nat.sub_self] at h
  rw [forSearch_end]
  exact runToEnd (N:=1) (by omega) h
end
end Rx
end Mine
end SM43
section SM44
open PySem PySem.Calls PyProof.Rows PySem.W PySem.Builtin PySem.Builtin.Re
namespace Mine
namespace Rx
open PySem.Sre
structure PatAt (h:Heap) (pat ct:Addr) (code:Array Nat):Prop where
 obj:∃ p t1 t2 t3 t4,h.get? pat=some { cls:=.type "re.Pattern",data:=.fields #[.str p t1,.int 32 t2,.int 1 t3,.none,.none,.ref ct,.int 0 t4] }
 code:∃ o items n,h.get? ct=some o∧o.data=.seq items n∧(items.map reRawOf).map (·.toNat)=code
section
variable {prog:Program} {w:World} {A:Around} {E:Value→Shared→Prop} {s:Shared}
theorem wholeTarget {pat ct:Addr} {code:Array Nat} {x:Str} {t:Tok} {Q:ReTarget→Shared→Prop} (P:PatAt s.heap pat ct code) (h:Q ⟨.ref pat,.str x t,code,x.cps,0,1,0,x.cps.size⟩ s):wpAny (model prog w) A (reWholeTarget (.ref pat) (.str x t)) Q E s:=by
 obtain ⟨p,t1,t2,t3,t4,e1⟩:=P.obj
 obtain ⟨o,items,n,e2,d2,hc⟩:=P.code
 have hsi:∀ (Q':Option (Array Value)→Shared→Prop) u,u.heap=s.heap→Q' (some items) u→wpAny (model prog w) A (seqItems? (.ref ct)) Q' E u:=fun Q' u hu hq=>wpAny_seqItems (hu ▸ e2) d2 hq
 unfold reWholeTarget reTextOf reNoCollectionInside reRawItems
 repeat (any_goals (first | assumption | (refine hsi _ _ rfl ?_) | wp_step))
 show Q ⟨_,_,(Array.map reRawOf items).map (·.toNat),_,_,_,_,_⟩ _
 rw [hc]
 exact h
abbrev LoopSt:=Array Value × Nat × Nat × Bool × Int × Bool
def splitBody (t:ReTarget) (_:Nat) (r:LoopSt):Sem (ForInStep LoopSt) :=
 if (!r.2.2.2.2.2)=true then do
  match ← (if ((0:Int) != 0 && decide (r.2.2.2.2.1 ≥ 0))=true then pure none else reNextFound t r.2.1 r.2.2.2.1) with
  | none=>pure (.yield (r.1,r.2.1,r.2.2.1,r.2.2.2.1,r.2.2.2.2.1,true))
  | some m=>do
   let v ← reSlice t.text t.kind r.2.2.1 m.start
   let out' ← forIn (List.range t.groups) (r.1.push v) fun g o=>do
    let v ← reMachineGroup t m (g + 1) (pure .none)
    pure (.yield (o.push v))
   pure (.yield (out',m.handed,m.handed,m.handed == m.start,r.2.2.2.2.1 + 1,r.2.2.2.2.2))
 else pure (.yield (r.1,r.2.1,r.2.2.1,r.2.2.2.1,r.2.2.2.2.1,r.2.2.2.2.2))
theorem run_split {pat ct:Addr} {x:Str} {t:Tok} {Q:PySem.Fin→Shared→Prop} (P:PatAt s.heap pat ct cd)
  (h:wpAny (model prog w) A (forIn (List.range (2 * x.cps.size + 3)) ((#[],0,0,false,0,false):LoopSt) (splitBody ⟨.ref pat,.str x t,cd,x.cps,0,1,0,x.cps.size⟩)) (fun r s'=>r.2.2.2.2.2=true ∧
   wpAny (model prog w) A (reSlice x.cps 0 r.2.2.1 x.cps.size) (fun v s''=>wpAny (model prog w) A (newList (r.1.push v).toList) (fun v s₃=>Q (.done (.ret v)) s₃) E s'') E s') E s):wpAny (model prog w) A (Builtin.«re.Pattern.split» ⟨[.ref pat,.str x t],[]⟩) Q E s:=by
 unfold Builtin.«re.Pattern.split»
 have hn:∀ (Q':List (Option Value)→Shared→Prop),Q' [some (.str x t),none] s→wpAny (model prog w) A (reNamed "re.Pattern.split" "split" ["string","maxsplit"] 1 [.str x t] []) Q' E s:=fun Q' hq=>by
  unfold reNamed
  repeat (any_goals (first | assumption | wp_step))
 refine wpAny_bind (hn _ ?_)
 refine wpAny_bind (wpAny_pure ?_)
 refine wpAny_bind (wholeTarget P ?_)
 refine wpAny_bind ?_
 show wpAny _ _ (forIn (List.range (2 * x.cps.size + 3)) ((#[],0,0,false,0,false):LoopSt) (splitBody ⟨.ref pat,.str x t,cd,x.cps,0,1,0,x.cps.size⟩)) _ _ _
 refine wpAny_mono h (fun r s' hr=>?_) fun _ _ q=>q
 obtain ⟨out,st,la,mu,n,ov⟩:=r
 obtain ⟨ho,hr⟩:=hr
 dsimp only at ho hr ⊢
 subst ho
 refine wpAny_bind (wpAny_mono hr (fun v s'' hv=>?_) fun _ _ q=>q)
 exact wpAny_bind (wpAny_mono hv (fun v s'' hv=>wpAny_pure hv) fun _ _ q=>q)
def piece (x:Array Nat) (b e:Nat):List Nat:=(x.extract b e).toList
theorem slice {x:Array Nat} {b e:Nat} {Q:Value→Shared→Prop} (hx:x.size≤1000000) (h:Q (.str (ofL (piece x b e)) s.toks) { s with toks:=s.toks + 1 }):wpAny (model prog w) A (reSlice x 0 b e) Q E s:=by
 obtain ⟨hh,g,d,t,os⟩:=s
 unfold reSlice
 rw [if_pos (by rfl)]
 have e1:ofL (piece x b e)=⟨x.extract b e⟩:=rfl
 rw [e1] at h
 exact wpAny_mkStr' h (by
  show (x.extract b e).size≤sizeLine
  have:sizeLine=16777216:=rfl
  rw [Array.size_extract]; omega)
inductive Strs:List Value→List (List Nat)→Prop
 | nil:Strs [] []
 | cons {l:List Nat} {t:Tok} {vs ls} (h:Strs vs ls):Strs (.str (ofL l) t :: vs) (l :: ls)
theorem Strs.append {vs us:List Value} {ls ks:List (List Nat)} (a:Strs vs ls) (b:Strs us ks):Strs (vs++us) (ls++ks):=by
 induction a with
 | nil=>exact b
 | cons _ ih=>exact .cons ih
theorem Strs.vrs {h:Heap} {own:List Addr} {vs:List Value} {ls:List (List Nat)} (a:Strs vs ls):VRs h own (ls.map tx) vs:=by
 induction a with
 | nil=>exact .nil
 | cons _ ih=>exact .cons (.str _ _) ih
theorem Strs.length {vs:List Value} {ls:List (List Nat)} (a:Strs vs ls):vs.length=ls.length:=by
 induction a with
 | nil=>rfl
 | cons _ ih=>simp [ih]
def splitGo (x:Array Nat):Nat→Nat→List (List Nat)
 | 0,st=>[piece x st x.size]
 | f + 1,st=>match nextWs x x.size (x.size - st) st with
  | none=>[piece x st x.size]
  | some (p,n)=>piece x st p :: piece x p (p + n) :: splitGo x f (p + n)
theorem skip {t:ReTarget} {r:LoopSt} {Q:LoopSt→Shared→Prop} (hr:r.2.2.2.2.2=true):∀ l:List Nat,Q r s→wpAny (model prog w) A (forIn l r (splitBody t)) Q E s
 | [],h=>wpAny_pure h
 | i :: l,h=>by
  rw [List.forIn_cons]
  have e:splitBody t i r=pure (.yield r):=by
   obtain ⟨a,b,c,d,n,o⟩:=r
   dsimp only at hr
   subst hr
   rfl
  rw [e]
  exact wpAny_bind (wpAny_pure (skip hr l h))
theorem wsRun_le (x:Array Nat):∀ m q,wsRun x m q≤m
 | 0,q=>Nat.le_refl _
 | m + 1,q=>by
  unfold wsRun
  by_cases h:isWs (x.getD q 0)=true
  ·rw [if_pos h]; exact Nat.succ_le_succ (wsRun_le x m _)
  ·rw [if_neg h]; exact Nat.zero_le _
theorem nextWs_le {x:Array Nat} {lim:Nat}:∀ {d st p n:Nat},st + d=lim→nextWs x lim d st=some (p,n)→st≤p∧1≤n∧p + n≤lim
 | 0,_,_,_,_,e=>by cases e
 | d + 1,st,p,n,h,e=>by
  unfold nextWs at e
  cases hw:wsRun x (lim - st) st with
  | zero=>rw [hw] at e; have:=nextWs_le (by omega) e; omega
  | succ k =>
   rw [hw] at e; cases e
   have:=wsRun_le x (lim - st) st
   omega
theorem loop {x:Array Nat} {pv sv:Value} (hx:x.size≤1000000):∀ (f:Nat) (l:List Nat) (st:Nat) (n:Int) (out:Array Value) (acc:List (List Nat)) (s:Shared) (Q:LoopSt→Shared→Prop),st≤x.size→x.size - st≤f→f < l.length→Strs out.toList acc →
      (∀ out' acc' st' n' k, Strs out'.toList acc' → acc' ++ [piece x st' x.size] = acc ++ splitGo x f st → Q (out', st', st', false, n', true) { s with toks := k }) →
      wpAny (model prog w) A (forIn l ((out, st, st, false, n, false) : LoopSt) (splitBody ⟨pv, sv, cd, x, 0, 1, 0, x.size⟩)) Q E s
  | f, [], _, _, _, _, _, _, _, _, h, _, _ => by simp at h
  | f, i :: l, st, n, out, acc, s, Q, hs, hf, hl, ha, hQ => by
    rw [List.forIn_cons]
    refine wpAny_bind ?_
    unfold splitBody
    rw [if_pos (by rfl)]
    dsimp only
    rw [if_neg (by show ¬ (false && _) = true; rw [Bool.false_and]; decide)]
    refine wpAny_bind (nextFound rfl rfl hx hs ?_)
    dsimp only
    cases hn : nextWs x x.size (x.size - st) st with
    | none =>
      refine wpAny_pure ?_
      refine skip rfl l ?_
      have := hQ out acc st n s.toks ha (by
        congr 1
        cases f with
        | zero => rfl
        | succ f => unfold splitGo; rw [hn])
      exact this
    | some pn =>
      obtain ⟨p, k⟩ := pn
      intro o seen
      obtain ⟨h1, h2, h3⟩ := nextWs_le (by omega) hn
      refine wpAny_bind (slice hx ?_)
      refine wpAny_bind ?_
      show wpAny _ _ (forIn [0] (out.push _) _) _ _ _
      rw [List.forIn_cons]
      refine wpAny_bind (wpAny_bind ?_)
      show wpAny _ _ (if p + k < p then reWrongSpan else reSlice x 0 p (p + k)) _ _ _
      rw [if_neg (by omega)]
      refine slice hx ?_
      refine wpAny_pure (wpAny_pure (wpAny_pure ?_))
      have hm : (p + k == p) = false := beq_eq_false_iff_ne.mpr (by omega)
      show wpAny _ _ (forIn l (_, p + k, p + k, p + k == p, n + 1, false) _) _ _ _
      rw [hm]
      cases f with
      | zero => omega
      | succ f =>
        refine loop hx f l (p + k) (n + 1) _ (acc ++ [piece x st p, piece x p (p + k)]) _ Q (by omega) (by omega) (by simp at hl; omega) ?_ fun out' acc' st' n' kk hs' ha' => ?_
        · rw [Array.toList_push, Array.toList_push, List.append_assoc]
          exact ha.append (.cons (.cons .nil))
        · refine hQ out' acc' st' n' kk hs' ?_
          rw [ha', List.append_assoc]
          congr 1
          conv => rhs; unfold splitGo
          rw [hn]
          rfl
end
end Rx
end Mine
end SM44
section SM45
open PySem PySem.Calls PyProof.Rows PySem.W PySem.Builtin PySem.Builtin.Re
namespace Mine
namespace Rx
theorem slot_split:Slot "re.Pattern" "split" "re.Pattern.split" :=
 .of (owner:="re.Pattern") (n:="split") (by rw [typeLookup_type,builtinLookup_eq_fast]; kernel_rfl) (by decide +kernel) (by decide +kernel) (by decide +kernel)
  (by first | exact .inl (by decide +kernel) | exact .inr (by decide +kernel)) (by rw [isSubtype_type]; kernel_rfl)
theorem type_split:typeOf (.builtin "re.Pattern.split")=pure (.type "method_descriptor"):=by show builtinType _=_; rw [builtinType_eq_fast]; kernel_rfl
theorem entry_split:entryFor table "re.Pattern.split" = some Builtin.«re.Pattern.split»:=entryFor_of_tree (by kernel_rfl)
theorem args_split (a b:Value):argsOk "re.Pattern.split" ⟨[a,b],[]⟩:=by unfold argsOk; kernel_rfl
theorem plainAttrs:PlainAttrs "re.Pattern" :=
 ⟨⟨"object.__getattribute__",by rw [typeLookup_type,builtinLookup_eq_fast]; kernel_rfl,by decide +kernel⟩,by rw [typeLookup_type,builtinLookup_eq_fast]; kernel_rfl⟩
structure PatOk (g:Gl) (pat:Addr):Prop where
 ex:∃ ct o items n p t1 t2 t3 t4,g.h₁.get? pat=some { cls:=.type "re.Pattern",data:=.fields #[.str p t1,.int 32 t2,.int 1 t3,.none,.none,.ref ct,.int 0 t4] }∧g.h₁.get? ct=some o∧o.cls≠.none∧o.data=.seq items n∧(items.map reRawOf).map (·.toNat)=cd
section
variable {g:Gl} {A:Around} {F:Fm} {σ:AS} {s:Shared} {P:PV→AS→Prop}
theorem PatOk.now {pat:Addr} (x:PatOk g pat) (S:Sat g F σ s):∃ ct,PatAt s.heap pat ct cd:=by
 obtain ⟨ct,o,items,n,p,t1,t2,t3,t4,e1,e2,hc,d,e⟩:=x.ex
 exact ⟨ct,⟨p,t1,t2,t3,t4,S.old.get_of_cls e1 (fun q=>nomatch q)⟩,⟨o,items,n,S.old.get_of_cls e2 hc,d,e⟩⟩
theorem MT_split {pat:Addr} (x:PatOk g pat):MT g A F (.raw (.ref pat)) "split" "re.Pattern.split" σ:=fun s v S hv pl Q E k=>by
 cases hv
 obtain ⟨ct,hP⟩:=x.now S
 obtain ⟨p,t1,t2,t3,t4,e1⟩:=hP.obj
 refine getMethod_builtin (T:="re.Pattern") ⟨_,e1,rfl⟩ plainAttrs slot_split type_split (fun a e=>by cases e; exact ⟨_,e1,rfl⟩) (k _)
def splitL (l:List Nat):List (List Nat):=splitGo l.toArray l.length 0
theorem splitGo_len {x:Array Nat}:∀ (f st:Nat),(splitGo x f st).length≤2 * f + 1
 | 0,st=>by simp [splitGo]
 | f + 1,st=>by
  unfold splitGo
  cases nextWs x x.size (x.size - st) st with
  | none=>simp
  | some p=>have:=splitGo_len (x:=x) f (p.1 + p.2); simp only [List.length_cons]; omega
theorem CL_split {pat:Addr} {l:List Nat} (x:PatOk g pat) (hl:l.length≤100000) (h:∀ D,P (.raw (.ref D)) ⟨σ.loc,(D,.list ((splitL l).map tx)) :: σ.zone⟩):CL g A F (.builtin "re.Pattern.split") [.raw (.ref pat),tx l] σ P:=fun s vs S hvs Q E k=>by
 cases hvs with | cons hv hs'=>cases hs' with | cons hu hs'=>cases hs'; cases hv; cases hu; (
  rename_i t
  obtain ⟨ct,hP⟩:=x.now S
  obtain ⟨p,t1,t2,t3,t4,e1⟩:=hP.obj
  refine wpAny_call_entry slot_split ⟨_,e1,rfl⟩ entry_split ?_ (args_split _ _)
  have hcs:(ofL l).cps.size=l.length:=by simp [ofL]
  refine run_split hP ?_
  refine loop (x:=(ofL l).cps) (by omega) l.length _ 0 0 #[] [] s _ (by omega) (by omega) (by simp; omega) .nil fun out' acc' st' n' kk hs2 ha=>?_
  refine ⟨rfl,?_⟩
  dsimp only
  refine slice (by omega) ?_
  have hst:Strs (out'.push (.str (ofL (piece (ofL l).cps st' (ofL l).cps.size)) kk)).toList (splitL l):=by
   rw [Array.toList_push]
   have:=hs2.append (.cons (l:=piece (ofL l).cps st' (ofL l).cps.size) (t:=kk) .nil)
   rw [ha] at this
   exact this
  have hlen:=splitGo_len (x:=(ofL l).cps) l.length 0
  have hlen2:=hst.length
  refine wpAny_newList ?_ (by have e:sizeLine=16777216:=rfl; rw [hlen2]; show (splitGo _ _ _).length≤_; show (splitGo (ofL l).cps l.length 0).length≤_; omega)
  obtain ⟨S',st⟩:=((S.toks kk).toks (kk + 1)).newList (ps:=(splitL l).map tx) hst.vrs
  exact ⟨_,rfl,k _ _ _ _ (h _) S' (.raw _) (Stp.trans (Stp.toks (n:=kk + 1)) st)⟩)
end
end Rx
end Mine
end SM45
section SM46
open PySem PySem.Calls PyProof.Rows PySem.W PySem.Builtin PySem.Builtin.Str
namespace Mine
section
variable {g:Gl} {A:Around} {F:Fm} {σ:AS} {s:Shared} {P:PV→AS→Prop}
theorem VRs.strValues {h:Heap} {own:List Addr}:∀ l:List (PySem.Str × Tok),VRs h own ((l.map (·.1)).map PV.str) (strValues l)
 | []=>.nil
 | (x,t) :: r=>.cons (.str _ _) (VRs.strValues r)
theorem MT_split_s {l:List Nat}:MT g A F (tx l) "split" "str.split" σ:=MT_of PySem.F.slot_str_split PySem.F.type_str_split
theorem CL_split_sep {l sep:List Nat} (hl:l.length≤1000000) (hs:sep≠[]) (h:P (.lst ((Txt.split (ofL l) (ofL sep)).map PV.str)) σ):CL g A F (.builtin "str.split") [tx l,tx sep] σ P:=fun s vs S hvs Q E k=>by
 cases hvs with | cons hv hs'=>cases hs' with | cons hu hs'=>cases hs'; cases hv; cases hu; (
  rename_i t u
  have hy:((ofL sep).length == 0)=false:=by rw [ofL_len]; cases sep with | nil=>exact absurd rfl hs | cons _ _=>rfl
  have fin:∀ (ps:List (PySem.Str × Tok)) (tk:Nat),ps.map (·.1)=Txt.split (ofL l) (ofL sep)→Q (.ref s.heap.objs.size) { s with heap:=s.heap.push { cls:=.type "list",data:=.seq (strValues ps).toArray },toks:=tk }:=fun ps tk e=>by
   have S₂:=(S.push { cls:=.type "list",data:=.seq (strValues ps).toArray }).toks tk
   have st₂:Stp [] σ.own s σ.own { s with heap:=s.heap.push { cls:=.type "list",data:=.seq (strValues ps).toArray },toks:=tk }:=(Stp.push { cls:=.type "list",data:=.seq (strValues ps).toArray }).trans .toks
   have hv:VR (s.heap.push { cls:=.type "list",data:=.seq (strValues ps).toArray }) σ.own (.lst ((Txt.split (ofL l) (ofL sep)).map PV.str)) (.ref s.heap.objs.size):=by
    have hv':VRs s.heap σ.own ((Txt.split (ofL l) (ofL sep)).map PV.str) (strValues ps):=by rw [← e]; exact VRs.strValues ps
    exact VR.newLst S hv'
   exact k _ _ σ _ h S₂ hv st₂
  have hlen:=ofL_len l
  cases h1:(decide ((ofL l).length < (ofL sep).length) || decide (strKind (ofL l) < strKind (ofL sep)))
  ·cases hf:(occurrences (ofL l) (ofL sep) 0 (ofL l).length ((ofL l).length + 1)).isEmpty
   ·refine call_meets PySem.F.slot_str_split (typeIs_str _ _ _) PySem.F.entry_str_split (PySem.F.args_str_split_2 _ _) (meets_str_split_sep _ _ t u h1 hy hf ?_ ?_) ?_
    ·have:sizeLine=16777216:=rfl
     omega
    ·have:sizeLine=16777216:=rfl
     have h2:=StrLaws.occ_length_le (ofL l) (ofL sep) 0 (ofL l).length ((ofL l).length + 1)
     rw [length_partsBetween]
     omega
    ·show wants Q E _ { s with toks:=_,heap:=s.heap.push { cls:=.type "list",data:=.seq (strsFrom s.toks (partsBetween (ofL l) (occurrences (ofL l) (ofL sep) 0 (ofL l).length ((ofL l).length + 1)) (ofL sep).length)).toArray } }
     rw [strsFrom_eq]
     exact fin (numbered s.toks _) _ ((numbered_texts _ _).trans ((if_neg (ne_true_of_eq_false h1)).trans (if_neg (ne_true_of_eq_false hf))).symm)
   ·exact call_meets PySem.F.slot_str_split (typeIs_str _ _ _) PySem.F.entry_str_split (PySem.F.args_str_split_2 _ _) (meets_str_split_not_found _ _ t u h1 hy hf)
     (fin [(ofL l,t)] s.toks ((if_neg (ne_true_of_eq_false h1)).trans (if_pos hf)).symm)
  ·exact call_meets PySem.F.slot_str_split (typeIs_str _ _ _) PySem.F.entry_str_split (PySem.F.args_str_split_2 _ _) (meets_str_split_cannot_occur _ _ t u h1)
    (fin [(ofL l,t)] s.toks (if_pos h1).symm))
end
end Mine
end SM46
section SM47
open PySem PySem.Calls PyProof.Rows PySem.W PySem.Builtin
namespace Mine
namespace By
section
variable {prog:Program} {w:World} {A:Around} {E:Value→Shared→Prop} {s:Shared}
theorem getm {pl:Sem Bool} {Q:Value × List Value→Shared→Prop} (h:Q (.builtin "bytes.maketrans",[]) { s with toks:=s.toks + 1 }):wpAny (model prog w) A (getMethod (.type "bytes") "maketrans" pl) Q E s:=by
 have X:PySem.W.Frag.In [] s.heap:=fun a o e=>by cases e
 have hstub:opaqueClassAbove (.type "bytes")=pure none:=by unfold opaqueClassAbove; dsimp only; rw [show Manifest.isStub "bytes" = false by decide +kernel]; rfl
 have ht:typeOf (.type "bytes")=pure (.type "type"):=by first | rfl | kernel_rfl
 have L0:Looks (model prog w) s.heap (typeOf (.type "bytes")) (.type "type"):=Looks.of_pure ht
 have hg:findIn [] (.type "type") "__getattribute__" = some (some (.builtin "type.__getattribute__")):=by rfl
 unfold getMethod specialOf
 refine wpAny_bind (wpAny_bind (L0.here ((looks_findIn X hg).here ?_)))
 dsimp only
 rw [if_pos canon_tga]
 refine wpAny_bind (wpAny_mono (Q:=fun v=>Q (v,[])) (E:=E) ?_ (fun _ _ z=>wpAny_pure z) fun _ _ z=>z)
 have LO:Looks (model prog w) s.heap (opaqueClassAbove (.type "bytes")) none:=Looks.of_pure hstub
 refine cls_open X LO L0 hg (looks_hook X (r:=none) (by rfl)) (by show subIn [] _ _=_; rfl) (r:=.val (.builtin "bytes.maketrans")) (by rfl) ?_
 refine wpAny_pure ?_
 exact handed_on rfl h
def transTab0 (a b:List UInt8):Array UInt8:=(a.zip b).foldl (fun t (p:UInt8 × UInt8)=>t.setIfInBounds p.1.toNat p.2) ((Array.range 256).map (·.toUInt8))
theorem transTab0_size (a b:List UInt8):(transTab0 a b).size=256:=by
 unfold transTab0
 have:∀ (l:List (UInt8 × UInt8)) (t:Array UInt8),(l.foldl (fun t (p:UInt8 × UInt8)=>t.setIfInBounds p.1.toNat p.2) t).size=t.size:=by
  intro l
  induction l with
  | nil=>intro t; rfl
  | cons p r ih=>intro t; rw [List.foldl_cons,ih]; simp
 rw [this]; simp
theorem call_maketrans0 {a b:Array UInt8} {t u:Tok} {Q:Value→Shared→Prop} (hs:a.size=b.size) (h:∀ tk,Q (.bytes (transTab0 a.toList b.toList) s.toks) { s with toks:=tk }):wpAny (model prog w) A (call (.builtin "bytes.maketrans") [.bytes a t,.bytes b u]) Q E s:=by
 refine wpAny_call (codeAny_call_builtin (by decide +kernel) (entryFor_of_tree (by kernel_rfl):entryFor table "bytes.maketrans" = some Builtin.«bytes.maketrans») (wpAny_of_eq (a:=()) (by kernel_rfl) ?_))
 have hb:∀ (x:Array UInt8) (t:Tok) (id:String),Bytes.bytesLike id (.bytes x t)=pure x:=fun x t id=>by unfold Bytes.bytesLike; rw [KBy.buffer_eq]; rfl
 unfold Builtin.«bytes.maketrans» Bytes.maketransM
 refine wpAny_bind (wpAny_of_eq (a:=()) (by first | rfl | kernel_rfl) ?_)
 refine wpAny_bind (wpAny_of_eq (a:=()) (by first | rfl | kernel_rfl) ?_)
 refine wpAny_bind (wpAny_of_eq (hb _ _ _) ?_)
 refine wpAny_bind (wpAny_of_eq (hb _ _ _) ?_)
 have hne:(a.size != b.size)=false:=by rw [hs]; exact bne_self_eq_false _
 rw [hne]
 have e:(a.toList.zip b.toList).foldl (fun t (x:UInt8 × UInt8)=>t.setIfInBounds x.1.toNat x.2) ((Array.range 256).map (·.toUInt8))=transTab0 a.toList b.toList:=rfl
 show wpAny _ _ (mkBytes (transTab0 a.toList b.toList)>>=fun v=>ret v) _ _ _
 refine wpAny_bind (wpAny_mkBytes ?_ ?_)
 ·exact wpAny_pure (h _)
 ·rw [transTab0_size]; decide
@[irreducible] def transTab (a b:List UInt8):Array UInt8:=transTab0 a b
theorem transTab_size (a b:List UInt8):(transTab a b).size=256:=by
 unfold transTab
 exact transTab0_size a b
theorem call_maketrans {a b:Array UInt8} {t u:Tok} {Q:Value→Shared→Prop} (hs:a.size=b.size) (h:∀ tk,Q (.bytes (transTab a.toList b.toList) s.toks) { s with toks:=tk }):wpAny (model prog w) A (call (.builtin "bytes.maketrans") [.bytes a t,.bytes b u]) Q E s :=
 call_maketrans0 hs fun tk=>by have:=h tk; unfold transTab at this; exact this
theorem translate_bytes {a tb:Array UInt8} {t u:Tok} {Q:Value→Shared→Prop} (hs:tb.size=256) (hz:a.size≤16777216) (h:∀ t' tk,Q (.bytes (a.map fun c=>tb.getD c.toNat c) t') { s with toks:=tk }):wpAny (model prog w) A (call (.builtin "bytes.translate") [.bytes a t,.bytes tb u]) Q E s:=by
 refine wpAny_call (codeAny_call_builtin (by decide +kernel) (entryFor_of_tree (by kernel_rfl):entryFor table "bytes.translate" = some Builtin.«bytes.translate») (wpAny_of_eq (a:=()) (by kernel_rfl) ?_))
 have hb:∀ (x:Array UInt8) (t:Tok) (id:String),Bytes.bytesLike id (.bytes x t)=pure x:=fun x t id=>by unfold Bytes.bytesLike; rw [KBy.buffer_eq]; rfl
 unfold Builtin.«bytes.translate» Bytes.translateM
 have fin:∀ (m:Sem (Option (Array UInt8))) (Q':Fin→Shared→Prop) (E':Value→Shared→Prop) (K':Option (Array UInt8)→Sem Fin),m=pure (some tb)→wpAny (model prog w) A.in1 (K' (some tb)) Q' E' s→wpAny (model prog w) A.in1 (m>>=K') Q' E' s:=fun m Q' E' K' e h'=>by rw [e]; exact wpAny_bind (wpAny_pure h')
 repeat (any_goals (first | assumption | with_reducible refine wpAny_of_eq (hb _ _ _) ?_ | wp_step))
 have ef:Array.filter (fun (x:UInt8)=>!(#[]:Array UInt8).contains x) a=a:=by simp
 rw [ef]
 show wpAny _ _ (if ((a.map fun c=>tb.getD c.toNat c) == a)=true then _ else _) _ _ _
 by_cases he:((a.map fun c=>tb.getD c.toNat c) == a)=true
 ·rw [if_pos he]
  have e:=eq_of_beq he
  refine wpAny_bind (wpAny_rule ?_)
  repeat (any_goals (first | assumption | wp_step))
  have:=h t s.toks
  rw [e] at this
  exact this
 ·rw [if_neg he]
  refine wpAny_bind ?_
  show wpAny _ _ (mkBytes (a.map fun c=>tb.getD c.toNat c)) _ _ _
  refine wpAny_mkBytes (wpAny_pure (h _ _)) (by rw [Array.size_map]; have:sizeLine=16777216:=rfl; omega)
end
theorem slot_translate:Slot "bytes" "translate" "bytes.translate" :=
 .of (owner:="bytes") (n:="translate") (by rw [typeLookup_type,builtinLookup_eq_fast]; kernel_rfl) (by decide +kernel) (by decide +kernel) (by decide +kernel)
  (by first | exact .inl (by decide +kernel) | exact .inr (by decide +kernel)) (by rw [isSubtype_type]; kernel_rfl)
theorem type_translate:typeOf (.builtin "bytes.translate")=pure (.type "method_descriptor"):=by show builtinType _=_; rw [builtinType_eq_fast]; kernel_rfl
theorem plainAttrs:PlainAttrs "bytes" :=
 ⟨⟨"bytes.__getattribute__",by rw [typeLookup_type,builtinLookup_eq_fast]; kernel_rfl,by decide +kernel⟩,by rw [typeLookup_type,builtinLookup_eq_fast]; kernel_rfl⟩
section
variable {g:Gl} {A:Around} {F:Fm} {σ:AS} {s:Shared} {P:PV→AS→Prop}
theorem getm_translate {prog:Program} {w:World} {A:Around} {E:Value→Shared→Prop} {s:Shared} {b:Array UInt8} {t:Tok} {pl:Sem Bool} {Q:Value × List Value→Shared→Prop} (h:Q (.builtin "bytes.translate",[.bytes b t]) s):wpAny (model prog w) A (getMethod (.bytes b t) "translate" pl) Q E s:=by
 have hT:s.TypeIs (.bytes b t) "bytes":=PySem.W.typeIs_bytes _ _ _
 have hn:∀ a,Value.bytes b t=.ref a→∃ o,s.heap.get? a=some o∧o.dict=none:=fun _ e=>nomatch e
 with_reducible exact getMethod_builtin hT plainAttrs slot_translate type_translate hn h
theorem MT_translate {b:Array UInt8}:MT g A F (.byt b) "translate" "bytes.translate" σ:=by
 intro s v S hv pl Q E k
 cases hv
 exact getm_translate (k s.toks)
theorem CL_translate {b tb:Array UInt8} (hs:tb.size=256) (hz:b.size≤16777216) (h:P (.byt (b.map fun c=>tb.getD c.toNat c)) σ):CL g A F (.builtin "bytes.translate") [.byt b,.byt tb] σ P:=fun s vs S hvs Q E k=>by
 cases hvs with | cons hv hs'=>cases hs' with | cons hu hs'=>cases hs'; cases hv; cases hu; exact translate_bytes hs hz fun t' tk=>k _ _ σ _ h (S.toks _) (.byt _ _) .toks
theorem CL_maketrans {a b:Array UInt8} (hs:a.size=b.size) (h:P (.byt (transTab a.toList b.toList)) σ):CL g A F (.builtin "bytes.maketrans") [.byt a,.byt b] σ P:=fun s vs S hvs Q E k=>by
 cases hvs with | cons hv hs'=>cases hs' with | cons hu hs'=>cases hs'; cases hv; cases hu; exact call_maketrans hs fun tk=>k _ _ σ _ h (S.toks _) (.byt _ _) .toks
theorem EV_maketrans {o:Expr} {apos pos:Pos} {args:List Expr} {pl:Sem Bool}
  (h:EV g A F o σ fun p σ₁=>p=.raw (.type "bytes")∧EVs g A F args σ₁ fun ps σ₂=>CL g A F (.builtin "bytes.maketrans") ps σ₂ P)
  (he:eval (.Call (.Attribute o "maketrans" apos) args [] pos) F.env=(do
   let ov ← eval o F.env
   standAt apos.atName
   let (f,first) ← holding [ov] (getMethod ov "maketrans" pl)
   callWith pos f first (backTo pos (starEach args F.env)) []):=by with_unfolding_all rfl)
  (hns:(backTo pos (starEach args F.env)).any (·.1)=false:=by with_unfolding_all rfl):EV g A F (.Call (.Attribute o "maketrans" apos) args [] pos) σ P:=by
 intro s S Q E k
 refine MethodCall_ (pl:=pl) (h s S _ E fun v p σ₁ s₁ h₁ S₁ hv st₁=>?_) he
 obtain ⟨rfl,h₁⟩:=h₁
 cases hv
 refine getm ?_
 refine callWith_builtin hns (evalArgs_EVs h₁ hns (S₁.toks (s₁.toks + 1)) fun vs ps σ₂ s₂ h₂ S₂ hvs st₂=>?_)
 exact h₂ s₂ vs S₂ hvs Q E fun a b σ' s' h' S' hr st'=>k a b σ' s' h' S' hr (st₁.trans (Stp.trans .toks (st₂.trans st')))
theorem EV_Call_kw {func a kwe:Expr} {kwn:Str} {kwp pos:Pos} {f:Addr} {fd:FuncData} {body:List Stmt} (hf:FnAt g f fd body)
  (h:EV g A F func σ fun p σ₁=>p=.raw (.ref f)∧EVs g A F [a] σ₁ fun ps σ₂=>EV g A F kwe σ₂ fun q σ₃=>∃ kv,q=.raw kv∧CLCk g A F (.ref f) ps [(kwn,kv)] σ₃ P)
  (he:eval (.Call func [a] [⟨some kwn,kwe,kwp⟩] pos) F.env=(do callWith pos (← eval func F.env) [] (backTo pos (starEach [a] F.env)) [(some kwn,do let v ← eval kwe F.env; standAt pos; pure v)]):=by with_unfolding_all rfl)
  (hst:starEach [a] F.env=(false,eval a F.env) :: starEach [] F.env:=by with_unfolding_all rfl):EV g A F (.Call func [a] [⟨some kwn,kwe,kwp⟩] pos) σ P:=by
 intro s S Q E k
 rw [he]
 refine wpAny_bind (h s S _ E fun v p σ₁ s₁ h₁ S₁ hv st₁=>?_)
 obtain ⟨rfl,h₁⟩:=h₁
 cases hv
 obtain ⟨o,e,hd⟩:=hf.now S₁
 refine callWith_function_kw (o:=o) (fd:=fd) ?_
 have hh:=h₁ pos s₁ S₁
 rw [hst] at hh ⊢
 refine evalArgs_kw rfl (hh _ E fun vs ps σ₂ s₂ h₂ S₂ hvs st₂=>?_)
 refine evalAll_cons ?_
 refine wpAny_bind (h₂ s₂ S₂ _ E fun u q σ₃ s₃ h₃ S₃ hu st₃=>?_)
 obtain ⟨kv,rfl,h₃⟩:=h₃
 cases hu
 refine wpAny_bind (wpAny_standAt (wpAny_pure (evalAll_nil ?_)))
 obtain ⟨o',e',hd'⟩:=hf.now S₃
 have:o'=o:=by
  obtain ⟨o₀,e₀,hc₀,hd₀⟩:=hf.at_
  have q1:=S₃.old.get_of_cls e₀ hc₀
  have q2:=S₁.old.get_of_cls e₀ hc₀
  exact (Option.some.inj (e'.symm.trans q1)).trans (Option.some.inj (e.symm.trans q2)).symm
 subst this
 refine ⟨⟨e',hd⟩,?_⟩
 exact wpAny_call (h₃ s₃ vs S₃ (hvs.mono (S₂.kp st₃)) _ fun a b σ' s' h' S' hr st'=>k a b σ' s' h' S' hr (st₁.trans (st₂.trans (st₃.trans st'))))
end
end By
end Mine
end SM47
section SM48
open PySem PySem.Calls PyProof.Rows PySem.W PySem.Builtin PySem.Builtin.Re
namespace Mine
section
variable {g:Gl} {A:Around} {F:Fm} {σ:AS} {s:Shared} {P:PV→AS→Prop}
abbrev fnObj (fd:FuncData):Obj:={ cls:=.type "function",data:=.func fd }
theorem EV_Lambda {params:Arguments} {body:Expr} {scope:Scope} {pos:Pos} {c Pt:Addr} (hB:BmOk g) (T:CodeTab g c Pt) (hcode:F.env.code=.ref c) (hk:FnEnv F) (h:∀ L fd,P (.raw (.ref L)) ⟨σ.loc,(L,.obj (fnObj fd)) :: σ.zone⟩)
  (hdef:defaultsOf params F.env=([],[]):=by with_unfolding_all rfl) (hkwo:params.kwonlyargs=[]:=by with_unfolding_all rfl) (hclos:closureFor scope F.env=pure []:=by with_unfolding_all rfl):EV g A F (.Lambda params body scope pos) σ P:=by
 intro s S Q E k
 refine kla_eval hdef ?_
 rw [makeFunction_eq,hkwo]
 show wpAny _ A (makeTail _ _ _ _ _ _ .none .none none _ _) _ _ _
 unfold makeTail
 rw [hclos]
 refine wpAny_bind (wpAny_pure (wpAny_bind (wpAny_pure ?_)))
 refine wpAny_bind (functionCode_sat T S hcode fun code s₁ S₁ st₁ hx₁ hg₁=>?_)
 obtain ⟨mg,om,bm,ob,b1,b2,b3,b4,b5,b6,b7,b8,b9⟩:=hB.ex
 rw [hk.gl]
 refine wpAny_bind (wpAny_builtinsFor (Ns_old S₁.old b1 b2 b3) b4 b5 (S₁.old.get_of_cls b6 (by rw [b7]; simp)) b7 b8 b9 ?_)
 refine wpAny_bind (wpAny_nsGet (Ns_old S₁.old b1 b2 b3) ?_)
 refine wpAny_bind (wpAny_pure ?_)
 obtain ⟨h₁,gg,dd,tk,os⟩:=s₁
 refine wpAny_newObj_type ?_
 obtain ⟨S₂,st₂⟩:=S₁.newObj (fnObj _) (fun _ q=>nomatch q) (fun q=>nomatch q)
 exact k _ _ _ _ (h _ _) S₂ (.raw _) (st₁.trans st₂)
end
namespace Rx
open PySem.Sre
def cd2:Array Nat:=#[14,14,4,1,1,9,0,64,0,1342177280,0,0,0,0,0,17,0,13,11,9,0,64,0,1342177280,0,0,0,0,0,17,1,1]
def none2 (l:List Nat):Bool:=match (M.runFor 40 (forSearch cd2 l.toArray 1 0 l.length false)).outcome with
 | some .failed=>true
 | _=>false
end Rx
end Mine
end SM48
section SM49
open PySem PySem.Calls PyProof.Rows PySem.W PySem.Builtin PySem.Builtin.Re
namespace Mine
namespace Rx
open PySem.Sre
theorem slot_sub:Slot "re.Pattern" "sub" "re.Pattern.sub" :=
 .of (owner:="re.Pattern") (n:="sub") (by rw [typeLookup_type,builtinLookup_eq_fast]; kernel_rfl) (by decide +kernel) (by decide +kernel) (by decide +kernel)
  (by first | exact .inl (by decide +kernel) | exact .inr (by decide +kernel)) (by rw [isSubtype_type]; kernel_rfl)
theorem type_sub:typeOf (.builtin "re.Pattern.sub")=pure (.type "method_descriptor"):=by show builtinType _=_; rw [builtinType_eq_fast]; kernel_rfl
theorem entry_sub:entryFor table "re.Pattern.sub" = some Builtin.«re.Pattern.sub»:=entryFor_of_tree (by kernel_rfl)
theorem entry_loop:entryFor table "re.Pattern.sub.loop" = some Builtin.«re.Pattern.sub.loop»:=entryFor_of_tree (by kernel_rfl)
theorem args_sub (a b c:Value):argsOk "re.Pattern.sub" ⟨[a,b,c],[]⟩:=by unfold argsOk; kernel_rfl
theorem fn_call:typeLookup (.type "function") "__call__" = pure (some (.builtin "function.__call__")):=by rw [typeLookup_type,builtinLookup_eq_fast]; kernel_rfl
structure Pat2Ok (g:Gl) (pat:Addr):Prop where
 ex:∃ ct o items n p t1 t2 t3 t4,g.h₁.get? pat=some { cls:=.type "re.Pattern",data:=.fields #[.str p t1,.int 32 t2,.int 1 t3,.none,.none,.ref ct,.int 0 t4] }∧g.h₁.get? ct=some o∧o.cls≠.none∧o.data=.seq items n∧(items.map reRawOf).map (·.toNat)=cd2
section
variable {prog:Program} {w:World} {A:Around} {E:Value→Shared→Prop} {s:Shared}
abbrev rawInt0:Int:=0
theorem run_loop {pat ct D:Addr} {l:List Nat} {t:Tok} {L:Addr} {n:Nat} {Q:PySem.Fin→Shared→Prop} (P:PatAt s.heap pat ct cd2) (hl:1≤l.length∧l.length≤1000) (hn:none2 l=true) (hD:s.heap.get? D=some (lstObj #[] n))
  (h:∀ h' t' tk,Heap.SameBut D s.heap h'→Q (.done (.ret (.str (ofL l) t'))) { s with heap:=h',toks:=tk }) :
  wpAny (model prog w) A (Builtin.«re.Pattern.sub.loop» ⟨[.ref pat,.str (ofL l) t,.ref L,rawInt 1,rawInt 0,rawInt 0,rawInt 0,rawInt 0,.bool false,.ref D,.bool false],[]⟩) Q E s:=by
 have hcs:(ofL l).cps.size=l.length:=by simp [ofL]
 unfold Builtin.«re.Pattern.sub.loop»
 refine wpAny_bind (wholeTarget P ?_)
 refine wpAny_bind (m:=reNextFound ⟨.ref pat,.str (ofL l) t,cd2,(ofL l).cps,0,1,0,(ofL l).cps.size⟩ 0 false) ?_
 have hmach:∀ (Q':Option M→Shared→Prop),Q' none s→wpAny (model prog w) A (reNextFound ⟨.ref pat,.str (ofL l) t,cd2,(ofL l).cps,0,1,0,(ofL l).cps.size⟩ 0 false) Q' E s:=fun Q' hq=>by
  unfold reNextFound
  refine runToEnd (N:=40) (by decide) ?_
  unfold none2 at hn
  rw [hcs]
  show match (M.runFor 40 (forSearch cd2 l.toArray 1 0 l.length false)).outcome with | some .matched=>_ | some .failed=>_ | _=>_
  revert hn
  cases (M.runFor 40 (forSearch cd2 l.toArray 1 0 l.length false)).outcome with
  | none=>intro q; cases q
  | some o=>cases o with
   | matched=>intro q; cases q
   | failed=>intro _; exact hq
   | stuck _=>intro q; cases q
 refine hmach _ ?_
 dsimp only
 rw [if_pos (by show (0:Nat) < (ofL l).cps.size; omega)]
 have e0:∀ tk:Tok,piece (ofL l).cps 0 (ofL l).cps.size=l:=fun _=>by unfold piece; simp [ofL]
 have hpiece:piece (ofL l).cps (rawInt0:Int).toNat (ofL l).cps.size=l:=by unfold piece; simp [ofL,rawInt0]
 refine wpAny_bind (slice (by omega) ?_)
 refine wpAny_bind (wpAny_updateSeq hD rfl ?_ (by have:sizeLine=16777216:=rfl; simp [sizeLine]) (by simp [sizeLine]))
 have hs:Heap.SameBut D s.heap (s.heap.update D (Obj.mapSeq fun x=>x.push (.str (ofL (piece (ofL l).cps (0:Int).toNat (ofL l).cps.size)) s.toks))):=.update ..
 have hg:=Heap.get?_update_self (Obj.mapSeq fun x=>x.push (.str (ofL (piece (ofL l).cps (0:Int).toNat (ofL l).cps.size)) s.toks)) hD (by simp [Obj.mapSeq,Obj.isFreed])
 refine wpAny_bind (slice (by omega) ?_)
 have hm:∃ m',Obj.mapSeq (fun x=>x.push (.str (ofL (piece (ofL l).cps (0:Int).toNat (ofL l).cps.size)) s.toks)) (lstObj #[] n)=lstObj #[.str (ofL (piece (ofL l).cps (0:Int).toNat (ofL l).cps.size)) s.toks] m':=⟨_,rfl⟩
 obtain ⟨m',hm⟩:=hm
 have hg':=hg.trans (congrArg some hm)
 refine wpAny_bind (m:=seqItems? (.ref D)) (wpAny_seqItems hg' rfl ?_)
 rw [if_neg (by show ¬ (false=true); decide)]
 refine wpAny_bind ?_
 show wpAny _ _ (call (.builtin "str.join") [.str (ofL (piece (ofL l).cps 0 0)) _,.ref D]) _ _ _
 have hp0:piece (ofL l).cps 0 0=[]:=by unfold piece; simp
 have hpl:piece (ofL l).cps (0:Int).toNat (ofL l).cps.size=l:=hpiece
 rw [hp0]
 rw [hpl] at hg' hs ⊢
 refine join_list ⟨_,hg',rfl,_,rfl⟩ (ys:=[ofL l]) (.cons _ _ .nil) ?_ fun t' tk=>?_
 ·simp [ofL,Str.length]; omega
 ·have ej:Txt.join (ofL []) [ofL l]=ofL l:=(StrLaws.glued_eq_join _ _).trans ((ofL_join [] [l]).trans (by simp [joinL]))
  rw [ej]
  exact wpAny_pure (h _ t' tk hs)
theorem sub_none {pat ct:Addr} {l:List Nat} {t:Tok} {L:Addr} {fd:FuncData} {Q:Value→Shared→Prop} (P:PatAt s.heap pat ct cd2) (hl:1≤l.length∧l.length≤1000) (hn:none2 l=true) (hL:s.heap.get? L=some (fnObj fd))
  (h:∀ h' t' tk,(∀ b o,s.heap.get? b=some o→h'.get? b=some o)→Q (.str (ofL l) t') { s with heap:=h',toks:=tk }) :
  wpAny (model prog w) A (call (.builtin "re.Pattern.sub") [.ref pat,.ref L,.str (ofL l) t]) Q E s:=by
 obtain ⟨p,t1,t2,t3,t4,e1⟩:=P.obj
 have hT:s.TypeIs (.ref pat) "re.Pattern":=⟨_,e1,rfl⟩
 refine wpAny_call (codeAny_call_builtin slot_sub.plain entry_sub (slot_sub.check _ _ _ _ _ _ _ _ hT (args_sub _ _ _) ?_))
 unfold Builtin.«re.Pattern.sub» reSubstitute
 have hnm:∀ (Q':List (Option Value)→Shared→Prop) E',Q' [some (.ref L),some (.str (ofL l) t),none] s→wpAny (model prog w) A.in1 (reNamed "re.Pattern.sub" "sub" ["repl","string","count"] 2 [.ref L,.str (ofL l) t] []) Q' E' s:=fun Q' E' hq=>by
  unfold reNamed
  repeat (any_goals (first | assumption | wp_step))
 refine wpAny_bind (hnm _ _ ?_)
 refine wpAny_bind (wpAny_pure ?_)
 have hTL:s.TypeIs (.ref L) "function":=⟨_,hL,rfl⟩
 refine wpAny_bind (wpAny_specialOf hTL fn_call ?_)
 refine wpAny_bind (wpAny_pure ?_)
 refine wpAny_bind (wpAny_pure ?_)
 refine wpAny_bind (wpAny_holding (wholeTarget P ?_))
 have hnh:∀ (Q':Unit→Shared→Prop) E',Q' () s→wpAny (model prog w) A.in1 (reNotHeld "re.Pattern.sub" (.str (ofL l) t)) Q' E' s:=fun Q' E' hq=>by
  unfold reNotHeld
  have hsub:isSubtype (.type "str") (.type "bytearray")=pure false:=by rw [isSubtype_type]; kernel_rfl
  repeat (any_goals (first | assumption | with_reducible refine wpAny_of_eq hsub ?_ | wp_step))
 show wpAny _ _ (reNotHeld "re.Pattern.sub" (.str (ofL l) t)>>=_) _ _ _
 refine wpAny_bind (hnh _ _ ?_)
 refine wpAny_bind (wpAny_newList ?_ (by simp [sizeLine]))
 refine wpAny_pure ⟨plainId_quiet (by decide +kernel) _,?_⟩
 have hk:∀ b o,s.heap.get? b=some o→(s.heap.push { cls:=.type "list",data:=.seq ([]:List Value).toArray }).get? b=some o:=fun b o e=>Heap.get?_push_of_some _ e
 have P':PatAt (s.heap.push { cls:=.type "list",data:=.seq ([]:List Value).toArray }) pat ct cd2:=by
  obtain ⟨p,t1,t2,t3,t4,e1⟩:=P.obj
  obtain ⟨o,items,n,e2,d2,hc⟩:=P.code
  exact ⟨⟨p,t1,t2,t3,t4,hk _ _ e1⟩,⟨o,items,n,hk _ _ e2,d2,hc⟩⟩
 refine codeAny_builtin entry_loop ?_
 refine run_loop (s:={ s with heap:=s.heap.push { cls:=.type "list",data:=.seq ([]:List Value).toArray } }) (n:=0) P' hl hn (Heap.get?_push_size _ rfl) fun h' t' tk hs=>?_
 exact h h' t' tk fun b o e=>hs.extBut b o (Nat.ne_of_lt (Heap.lt_size e)) (hk b o e)
end
section
variable {g:Gl} {A:Around} {F:Fm} {σ:AS} {s:Shared} {P:PV→AS→Prop}
theorem Pat2Ok.now {pat:Addr} (x:Pat2Ok g pat) (S:Sat g F σ s):∃ ct,PatAt s.heap pat ct cd2:=by
 obtain ⟨ct,o,items,n,p,t1,t2,t3,t4,e1,e2,hc,d,e⟩:=x.ex
 exact ⟨ct,⟨p,t1,t2,t3,t4,S.old.get_of_cls e1 (fun q=>nomatch q)⟩,⟨o,items,n,S.old.get_of_cls e2 hc,d,e⟩⟩
theorem MT_sub {pat:Addr} (x:Pat2Ok g pat):MT g A F (.raw (.ref pat)) "sub" "re.Pattern.sub" σ:=fun s v S hv pl Q E k=>by
 cases hv
 obtain ⟨ct,hP⟩:=x.now S
 obtain ⟨p,t1,t2,t3,t4,e1⟩:=hP.obj
 exact getMethod_builtin (T:="re.Pattern") ⟨_,e1,rfl⟩ plainAttrs slot_sub type_sub (fun a e=>by cases e; exact ⟨_,e1,rfl⟩) (k _)
theorem CL_sub {pat L:Addr} {l:List Nat} {fd:FuncData} (x:Pat2Ok g pat) (hl:1≤l.length∧l.length≤1000) (hn:none2 l=true) (hL:(L,.obj (fnObj fd))∈σ.zone) (h:P (tx l) σ):CL g A F (.builtin "re.Pattern.sub") [.raw (.ref pat),.raw (.ref L),tx l] σ P:=fun s vs S hvs Q E k=>by
 cases hvs with | cons hv hs'=>cases hs' with | cons hu hs'=>cases hs' with | cons hw hs'=>cases hs'; cases hv; cases hu; cases hw; (
  obtain ⟨ct,hP⟩:=x.now S
  refine sub_none hP hl hn (S.zs _ hL).1 fun h' t' tk hk=>?_
  exact k _ _ σ _ h (S.keeps (h':=h') (tk:=tk) hk) (.str _ _) (Stp.keeps (h':=h') (tk:=tk) hk))
end
end Rx
end Mine
end SM49
section SM50
open PySem PySem.Calls PyProof.Rows PySem.W PySem.Builtin
namespace Mine
section
variable {g:Gl} {A:Around} {F:Fm} {σ:AS} {s:Shared} {P:PV→AS→Prop}
theorem VRs.mem_text {h:Heap} {own:List Addr}:∀ {as:List (List Nat)} {vs:List Value},VRs h own (as.map tx) vs→∀ y∈vs,∃ l t,y=.str (ofL l) t
 | [],_,x,y,hy=>by cases x; cases hy
 | a :: as,_,x,y,hy=>by
  cases x with
  | cons hv hs =>
   cases hv with
   | str _ t =>
    rcases List.mem_cons.mp hy with q | q
    ·exact ⟨a,t,q⟩
    ·exact VRs.mem_text hs y q
theorem VRs.any_text {h:Heap} {own:List Addr} {x:List Nat} {e:Value→Bool} (he:∀ l t,e (.str (ofL l) t)=decide (l=x)):∀ {as:List (List Nat)} {vs:List Value},VRs h own (as.map tx) vs→vs.any e=decide (x∈as)
 | [],_,q=>by cases q; rfl
 | a :: as,_,q=>by
  cases q with
  | cons hv hs =>
   cases hv with
   | str _ t =>
    rw [List.any_cons,he,VRs.any_text he hs]
    by_cases h1:a=x
    ·subst h1; simp
    ·have h2:¬ x=a:=fun q=>h1 q.symm
     simp [h1,h2]
theorem in_tups {x:List Nat} {as:List (List Nat)} (h:P (.raw (.bool (decide (x∈as)))) σ):OP2 g A F (compareOp .In) (tx x) (.tup (as.map tx)) σ P:=fun s v u S hv hu Q E k=>by
 cases hv with
 | str _ t =>
 cases hu with
 | @tup _ a items m no e1 hs1 =>
  let e:Value→Bool:=fun y=>match y with | .str z _=>z == ofL x | _=>false
  have hee:∀ l t,e (.str (ofL l) t)=decide (l=x):=fun l t=>ofL_beq l x
  refine SeqAt.in_tupleAt e (items:=items) ⟨_,e1,rfl,_,rfl⟩ (fun y hy=>?_) ?_
  ·obtain ⟨l,t',rfl⟩:=VRs.mem_text hs1 y (by simpa using hy)
   exact SeqAt.EqAt.str_str _ _ _ _
  ·have ea:items.any e=decide (x∈as):=by
    have:=VRs.any_text hee hs1
    rw [← this]
    simp
   rw [ea]
   exact k _ _ σ s h S (.raw _) .refl
end
end Mine
end SM50
section SM51
open PySem PySem.Calls PyProof.Rows PySem.W PySem.Builtin
namespace Mine
section
variable {g:Gl} {A:Around} {F:Fm} {σ:AS} {s:Shared} {P:PV→AS→Prop}
theorem ne_lsts {as bs:List (List Nat)} {n:Nat} (hr:Rm A n) (h:P (.raw (.bool (!decide (as=bs)))) σ):OP2 g A F (compareOp .NotEq) (.lst (as.map tx)) (.lst (bs.map tx)) σ P:=fun s v u S hv hu Q E k=>by
 cases hv with
 | @lst _ a items m no1 e1 hs1 =>
  cases hu with
  | @lst _ b items2 m2 no2 e2 hs2 =>
   obtain ⟨l1,f1⟩:=VRs.texts hs1
   obtain ⟨l2,f2⟩:=VRs.texts hs2
   have l1':items.size=as.length:=l1
   have l2':items2.size=bs.length:=l2
   have hu:A.units < cLine:=by have:=hr.units; omega
   by_cases hl:items.size=items2.size
   ·refine SeqAt.RcNeAt.lists (e:=fun j=>ofL (as.getD j []) == ofL (bs.getD j [])) (items:=items) (items2:=items2) ⟨_,e1,rfl,_,rfl⟩ ⟨_,e2,rfl,_,rfl⟩ hl hu (fun j h1 h2=>?_) g.prog g.w E Q ?_
    ·obtain ⟨t1,q1⟩:=f1 j (by simpa using h1)
     obtain ⟨t2,q2⟩:=f2 j (by simpa using h2)
     have q1':items[j]=_:=q1
     have q2':items2[j]=_:=q2
     rw [q1',q2']
     exact SeqAt.EqAt.str_str _ _ _ _
    ·have:=all_texts as bs
     rw [show min as.length bs.length=items.size by omega,show (as.length == bs.length)=true from by rw [← l1',← l2',hl]; exact beq_self_eq_true _,Bool.and_true] at this
     rw [this]
     exact k _ _ σ s h S (.raw _) .refl
   ·refine SeqAt.RcNeAt.lists_lengths (items:=items) (items2:=items2) ⟨_,e1,rfl,_,rfl⟩ ⟨_,e2,rfl,_,rfl⟩ (bne_iff_ne.mpr hl) hu g.prog g.w E Q ?_
    have:decide (as=bs)=false:=decide_eq_false fun q=>hl (by rw [l1',l2',q])
    rw [this] at h
    exact k _ _ σ s h S (.raw _) .refl
theorem eq_lsts {as bs:List (List Nat)} {n:Nat} (hr:Rm A n) (h:P (.raw (.bool (decide (as=bs)))) σ):OP2 g A F (compareOp .Eq) (.lst (as.map tx)) (.lst (bs.map tx)) σ P:=fun s v u S hv hu Q E k=>by
 cases hv with
 | @lst _ a items m no1 e1 hs1 =>
  cases hu with
  | @lst _ b items2 m2 no2 e2 hs2 =>
   obtain ⟨l1,f1⟩:=VRs.texts hs1
   obtain ⟨l2,f2⟩:=VRs.texts hs2
   have l1':items.size=as.length:=l1
   have l2':items2.size=bs.length:=l2
   have hu:A.units < cLine:=by have:=hr.units; omega
   by_cases hl:items.size=items2.size
   ·refine SeqAt.RcAt.lists (e:=fun j=>ofL (as.getD j []) == ofL (bs.getD j [])) (items:=items) (items2:=items2) ⟨_,e1,rfl,_,rfl⟩ ⟨_,e2,rfl,_,rfl⟩ hl hu (fun j h1 h2=>?_) g.prog g.w E Q ?_
    ·obtain ⟨t1,q1⟩:=f1 j (by simpa using h1)
     obtain ⟨t2,q2⟩:=f2 j (by simpa using h2)
     have q1':items[j]=_:=q1
     have q2':items2[j]=_:=q2
     rw [q1',q2']
     exact SeqAt.EqAt.str_str _ _ _ _
    ·have:=all_texts as bs
     rw [show min as.length bs.length=items.size by omega,show (as.length == bs.length)=true from by rw [← l1',← l2',hl]; exact beq_self_eq_true _,Bool.and_true] at this
     rw [this]
     exact k _ _ σ s h S (.raw _) .refl
   ·refine SeqAt.RcAt.lists_lengths (items:=items) (items2:=items2) ⟨_,e1,rfl,_,rfl⟩ ⟨_,e2,rfl,_,rfl⟩ (bne_iff_ne.mpr hl) hu g.prog g.w E Q ?_
    have:decide (as=bs)=false:=decide_eq_false fun q=>hl (by rw [l1',l2',q])
    rw [this] at h
    exact k _ _ σ s h S (.raw _) .refl
theorem strs_tx (l:List PySem.Str):l.map PV.str=(l.map fun s=>s.cps.toList).map tx:=by
 rw [List.map_map]; rfl
end
end Mine
end SM51
section SM52
open PySem PySem.Calls PyProof.Rows
namespace Mine
theorem OldT.refl {h:Heap}:OldT h h:=⟨⟨fun b o e=>.inl e,fun b o e=>⟨o,e⟩⟩,fun P ps e t=>⟨ps,e,t⟩⟩
theorem start_fn {prog:Program} {w:World} {A:Around} {s:Shared} {f:Addr} {fd:FuncData} {body:List Stmt} {xs:List Str} {ps:List PV} {vs:List Value} {P:PV→Prop} {n:Nat} (hr:Rm A (n + 1))
  (hlim:s.heap.NoLimit) (hbare:AllBare s.gens) (hcs:cStatics < s.heap.objs.size)
  (hf:FnAt ⟨prog,w,s.heap,s.os⟩ f fd body) (hx:xs.Nodup) (hlen:xs.length=ps.length)
  (hb:∀ vs:List Value,vs.length=ps.length→bindArgs fd ⟨vs,[]⟩=pure (xs.zip vs))
  (hcellB:(fd.scope.names.all fun x=>x.2 != .cell)=true) (hlocB:(xs.all fun x=>fd.scope.names.lookup x == some .local)=true)
  (hvs:VRs s.heap [] ps vs)
  (h:∀ L,EXs ⟨prog,w,s.heap,s.os⟩ (A.deeper (callEnv fd L f)) (fnFm fd L f) body ⟨xs.zip ps,[]⟩ fun fl σ'=>P (match fl with | .ret p=>p | _=>.raw .none))
  {Q:Value→Shared→Prop} {E:Value→Shared→Prop}
  (k:∀ a b s' own,P b→VR s'.heap own b a→OldK s.heap s'.heap→s'.os=s.os→AllBare s'.gens→Q a s'):wpAny (model prog w) A (call (.ref f) vs) Q E s:=by
 have hcell:∀ x∈fd.scope.names,x.2≠.cell:=fun x hx=>by simpa using List.all_eq_true.mp hcellB x hx
 have hloc:∀ x∈xs,fd.scope.names.lookup x=some .local:=fun x hx=>by simpa using List.all_eq_true.mp hlocB x hx
 obtain ⟨o,e,hc,hd⟩:=hf.at_
 have hcode:s.heap.CodeRec fd.code fd.qualname:=let ⟨c,o,vs,t,e,e1,hc,hd,hv⟩:=hf.code; ⟨c,o,vs,t,e,e1,hd,hv⟩
 have hlv:=hvs.length
 refine wpAny_call (codeAny_call_def (hr.le (Nat.zero_le _)).depth e hd hlim hcode hf.bd (.of_eq (hb vs hlv)) hcell (fun x hx'=>?_) (fun h₀ hn hk=>?_) hf.co hf.gen hf.kind)
 ·exact hloc _ (List.of_mem_zip hx').1
 ·have hkeys:((xs.zip vs).map (·.1))=xs:=by
   rw [List.map_fst_zip]; omega
  have kp:Kp s.heap h₀ [] []:=fun b o xs n e _ no=>⟨hk b o e,no⟩
  have S₀:Sat ⟨prog,w,s.heap,s.os⟩ (fnFm fd s.heap.objs.size f) ⟨xs.zip ps,[]⟩ { s with heap:=h₀,toks:=s.toks + (xs.zip vs).length }:=by
   refine ⟨OldT.refl.step_keeps hk,hlim.keeps hk,rfl,hbare,?_,fun a ha=>?_,(fun z hz=>by cases hz),fun a ha=>?_,⟨_,hn⟩,by simp [fnFm,callEnv,newEnv],fun x p ex=>?_,hcs,fun x c hx _ _ _=>absurd rfl (hcell _ (mem_of_lookup hx))⟩
   ·show ([s.heap.objs.size]++[]).Nodup
    simp
   ·rcases List.mem_append.mp ha with h | h
    ·simp [fnFm] at h; subst h; exact Nat.le_refl _
    ·cases h
   ·simp [fnFm] at ha; subst ha
    obtain ⟨o,es,ep,e,d,_⟩:=hn
    exact ⟨o,e,.inl ⟨es,ep,d⟩⟩
   ·obtain ⟨v,h1,h2⟩:=zip_lookup hvs ex
    refine ⟨v,.inl ⟨?_,_,hn,?_⟩,h2.mono kp⟩
    ·have hm:x∈xs:=by
      have:=List.lookup_eq_some_iff.mp h1
      obtain ⟨l1,l2,e1,_⟩:=this
      have:(x,v)∈xs.zip vs:=by rw [e1]; simp
      exact (List.of_mem_zip this).1
     show fd.scope.names.lookup x=some .local
     exact hloc x hm
    ·rw [lookup_reverse (by rw [hkeys]; exact hx)]; exact h1
  refine h s.heap.objs.size _ S₀ _ _ fun fv fl σ' s' hP S' hr' st'=>?_
  cases hr' with
  | ret hv=>exact k _ _ s' _ hP hv S'.old.k S'.os S'.bare
  | next=>exact k _ _ s' _ hP (.raw (own:=[]) _) S'.old.k S'.os S'.bare
  | brk=>exact k _ _ s' _ hP (.raw (own:=[]) _) S'.old.k S'.os S'.bare
  | cont=>exact k _ _ s' _ hP (.raw (own:=[]) _) S'.old.k S'.os S'.bare
end Mine
end SM52
namespace Mine
open PySem PySem.Calls PyProof.Rows
section SB1
def pBody:List Stmt:=PySem.Challenge.pw_in0222_01.main.body
def stAt (i:Nat):Stmt:=(pBody.drop i).headD (.Pass ⟨0,0,0,0⟩)
def fA (i:Nat):Arguments:=match stAt i with | .FunctionDef _ a _ _ _ _ _ _ _ _=>a | _=>⟨[],[],none,[],[],none,[]⟩
def fB (i:Nat):List Stmt:=match stAt i with | .FunctionDef _ _ b _ _ _ _ _ _ _=>b | _=>[]
def fS (i:Nat):Scope:=match stAt i with | .FunctionDef _ _ _ _ _ _ sc _ _ _=>sc | _=>default
def mkF (i:Nat) (nm:Str) (c:Addr) (pm:Value):FuncData :=
 { name:=nm,qualname:=nm,params:=fA i,body:=.stmts (fB i),scope:=fS i,globals:=mainGlobals,closure:=[],defaults:=.none,kwdefaults:=.none,doc:=.none,pyModule:=pm,annotations:=none,code:=.ref c,closureTuple:=.none,builtins:=builtinsNs }
theorem fnEnv_mkF {i:Nat} {nm:Str} {c:Addr} {pm:Value} {L f:Addr} (h:(fS i).kind=.function):FnEnv (fnFm (mkF i nm c pm) L f):=⟨h,rfl,rfl⟩
theorem lit1:(Str.ofString "\n")=ofL [10]:=by decide +kernel
theorem lit2:(Str.ofString "")=ofL []:=by decide +kernel
def sgn20:List Nat:=[43,47,42,63,91,93,33,94,92,45,38,126,124,35,46,44,59,95,40,123]
theorem lit10:(Str.ofString "+/*?[]!^\\-&~|#.,;_({")=ofL sgn20:=by decide +kernel
theorem lit11:(Str.ofString ".")=ofL [46]:=by decide +kernel
theorem lit12:(Str.ofString "\\")=ofL [92]:=by decide +kernel
theorem lit13:(Str.ofString "(?s:")=ofL [40,63,115,58]:=by decide +kernel
theorem lit14:(Str.ofString ")\\Z")=ofL [41,92,90]:=by decide +kernel
def tab64:List Nat:=[65,66,67,68,69,70,71,72,73,74,75,76,77,78,79,80,81,82,83,84,85,86,87,88,89,90,97,98,99,100,101,102,103,104,105,106,107,108,109,110,111,112,113,114,115,116,117,118,119,120,121,122,48,49,50,51,52,53,54,55,56,57]
theorem lit15:(Str.ofString "ABCDEFGHIJKLMNOPQRSTUVWXYZabcdefghijklmnopqrstuvwxyz0123456789")=ofL tab64:=by decide +kernel
theorem lit16:(Str.ofString " \t")=ofL [32,9]:=by decide +kernel
theorem lit17:(Str.ofString "*")=ofL [42]:=by decide +kernel
def headL:List Nat:=[40,63,115,58,40,63,62,46,42,63]
theorem lit18:(Str.ofString "(?s:(?>.*?")=ofL headL:=by decide +kernel
def tailL:List Nat:=[41,46,42,41,92,90]
theorem lit19:(Str.ofString ").*)\\Z")=ofL tailL:=by decide +kernel
theorem lit20:(Str.ofString "=")=ofL [61]:=by decide +kernel
theorem lit21:(Str.ofString "--")=ofL [45,45]:=by decide +kernel
theorem lit22:(Str.ofString " ")=ofL [32]:=by decide +kernel
theorem lit23:(Str.ofString "\t")=ofL [9]:=by decide +kernel
theorem lit25:(Str.ofString "[! \t]*")=ofL [91,33,32,9,93,42]:=by decide +kernel
theorem lit26:(Str.ofString "*[ \t]")=ofL [42,91,32,9,93]:=by decide +kernel
theorem lit27:(Str.ofString "[")=ofL [91]:=by decide +kernel
theorem lit28:(Str.ofString "?")=ofL [63]:=by decide +kernel
theorem lit29:(Str.ofString ".*")=ofL [46,42]:=by decide +kernel
theorem lit30:(Str.ofString "  ")=ofL [32,32]:=by decide +kernel
theorem lit31:(Str.ofString "\t ")=ofL [9,32]:=by decide +kernel
theorem lit32:(Str.ofString "^")=ofL [94]:=by decide +kernel
theorem lit33:(Str.ofString "]")=ofL [93]:=by decide +kernel
theorem lit34:(Str.ofString "(?>.*?")=ofL [40,63,62,46,42,63]:=by decide +kernel
theorem lit35:(Str.ofString ")")=ofL [41]:=by decide +kernel
theorem lit36:(Str.ofString "*?[")=ofL [42,63,91]:=by decide +kernel
theorem lit37:(Str.ofString "!")=ofL [33]:=by decide +kernel
theorem lit39:(Str.ofString "-")=ofL [45]:=by decide +kernel
theorem lit40:(Str.ofString "\\\\")=ofL [92,92]:=by decide +kernel
section
variable {g:Gl} {A:Around} {F:Fm} {σ:AS} {P:PV→AS→Prop} {value slice:Expr}
theorem idx_ok {i:Int} {n:Nat} (h0:0≤i) (h1:i < n):seqIndex? i n=some i.toNat:=StrLaws.seqIndex_nonneg h0 h1
theorem IX_lD {l:List PV} {i:Int} (d:PV) (h0:0≤i) (h1:i < l.length) (hz:l.length≤16777216) (h:P (l.getD i.toNat d) σ)
    (hs : ∀ v u, subscripted slice false v u = operate [v, u] (getItem v u) := by intro _ _; with_unfolding_all rfl) : IX g A F value slice (.lst l) (.int i) σ P :=
  IX_l (j := i.toNat) (idx_ok h0 h1) (by rw [List.getD_eq_getElem?_getD]; have : i.toNat < l.length := by omega
                                         simp [List.getElem?_eq_getElem this]) hz h hs
theorem IX_tD {l:List Nat} {i:Int} (h0:0≤i) (h1:i < l.length) (hz:l.length≤16777216) (h:P (tx [l.getD i.toNat 0]) σ)
    (hs : ∀ v u, subscripted slice false v u = operate [v, u] (getItem v u) := by intro _ _; with_unfolding_all rfl) : IX g A F value slice (tx l) (.int i) σ P :=
  IX_t (j := i.toNat) (idx_ok h0 h1) (by rw [List.getD_eq_getElem?_getD]; have : i.toNat < l.length := by omega
                                         simp [List.getElem?_eq_getElem this]) hz h hs
theorem EV_append {o:Expr} {apos pos:Pos} {arg:Expr} {pl:Sem Bool} (h:EV g A F o σ fun p σ₁=>∃ D ps,p=.raw (.ref D)∧(D,.list ps)∈σ₁.zone∧EV g A F arg σ₁ fun q σ₂=>∃ ps' zone',ZAt D (.list ps') (.list (ps'++[q])) σ₂.zone zone'∧ps'.length≤1000000∧P (.raw .none) ⟨σ₂.loc,zone'⟩)
  (he:eval (.Call (.Attribute o "append" apos) [arg] [] pos) F.env=(do
   let ov ← eval o F.env
   standAt apos.atName
   let (f,first) ← holding [ov] (getMethod ov "append" pl)
   callWith pos f first (backTo pos (starEach [arg] F.env)) []):=by with_unfolding_all rfl)
  (hns:(backTo pos (starEach [arg] F.env)).any (·.1)=false:=by with_unfolding_all rfl)
  (hst:starEach [arg] F.env=(false,eval arg F.env) :: starEach [] F.env:=by with_unfolding_all rfl):EV g A F (.Call (.Attribute o "append" apos) [arg] [] pos) σ P:=by
 refine EV_Meth (J.mono h ?_) he hns
 rintro p σ₁ ⟨D,ps,rfl,hz,h₁⟩
 refine ⟨"list.append",MT_append hz,EVs_cons (J.mono h₁ ?_) hst⟩
 rintro q σ₂ ⟨ps',zone',U,hl,hP⟩
 exact EVs_nil (CL_append U hl hP)
end
theorem small_range {n:Int} (h0:0≤n) (h1:n≤1000000):Builtin.Range.small 0 n 1=true:=small_one (by decide) (by decide) (by omega) (by omega)
theorem range1 {n:Int} {k:Nat} (h:n=k):rangeL 0 1 (Builtin.Range.rangeSize 0 n 1).toNat=(List.range k).map fun (i:Nat)=>.int (i:Int):=by
 subst h
 have e:(Builtin.Range.rangeSize 0 (k:Int) 1).toNat=k:=by
  unfold Builtin.Range.rangeSize
  rw [if_pos (by decide)]
  split
  ·rw [Int.ediv_one]; omega
  ·omega
 rw [e]
 unfold rangeL
 refine List.map_congr_left fun i _=>?_
 rw [Int.zero_add,Int.mul_one]
theorem fmod_range (q:Int) (k:Int) (hk:0 < k):0≤q.fmod k∧q.fmod k < k:=⟨Int.fmod_nonneg_of_pos q hk,Int.fmod_lt_of_pos q hk⟩
def octL (l:List Nat):PV:=.lst (l.map fun (k:Nat)=>.int k)
theorem fnEnv_cFm {F:Fm} {scope:Scope} {cl:List (Str × Addr)} {C:Addr} (hk:FnEnv F) (hs:scope.kind=.function):FnEnv (cFm scope cl C F):=⟨hs,hk.gl,hk.bl⟩
theorem fnEnv_mkFC {i:Nat} {nm:Str} {c:Addr} {pm:Value} {L f:Addr} (h:(fS i).kind=.function):FnEnv (fnFmC (mkF i nm c pm) L f):=⟨h,rfl,rfl⟩
theorem fdivN (m n:Nat):(m:Int).fdiv n=((m / n:Nat):Int):=by rw [Int.fdiv_eq_ediv_of_nonneg _ (by omega)]; rfl
theorem fmodN (m n:Nat):(m:Int).fmod n=((m % n:Nat):Int):=by rw [Int.fmod_eq_emod_of_nonneg _ (by omega)]; rfl
theorem CompP_mapL {g:Gl} {A:Around} {F:Fm} {α:Type} {D:Addr} {elt target:Expr} {P:List PV→List (Addr × MO)→Prop} {cap:List (Str × PV)} {z:List (Addr × MO)} (inj f:α→PV) :
  ∀ {l:List α} {acc:List PV},(∀ a∈l,∀ acc,AS1 g A F target (inj a) ⟨cap,(D,.list acc) :: z⟩ fun σ₁=>EV g A F elt σ₁ fun p σ₂=>p=f a∧σ₂.zone=(D,.list acc) :: z∧Sub σ₂.loc cap) →
   acc.length + l.length≤1000000→P (acc++l.map f) z→CompP g A F D elt target [] (l.map inj) acc ⟨cap,(D,.list acc) :: z⟩ P
 | [],acc,h,hl,hP=>⟨z,rfl,by simpa using hP⟩
 | x :: xs,acc,h,hl,hP=>by
  intro s v S hv Q E k
  refine h x List.mem_cons_self acc s v S hv Q E fun σ₁ s₁ h₁ S₁ st₁=>k σ₁ s₁ ?_ S₁ st₁
  refine TST_nil ?_
  rw [if_pos rfl]
  refine J.mono h₁ ?_
  rintro p σ₂ ⟨rfl,hz,hsub⟩
  refine ⟨z,hz,by simp at hl; omega,?_⟩
  refine CompP_weak hsub ?_
  exact CompP_mapL inj f (fun x hx acc=>h x (List.mem_cons_of_mem _ hx) acc) (by simp at hl ⊢; omega) (by simpa using hP)
theorem MT_join {g:Gl} {A:Around} {F:Fm} {σ:AS} {l:List Nat}:MT g A F (tx l) "join" "str.join" σ:=MT_of PySem.F.slot_str_join PySem.F.type_str_join
theorem TT_z {g:Gl} {A:Around} {F:Fm} {σ:AS} {D:Addr} {l:List PV} {P:Bool→AS→Prop} (hz:(D,.list l)∈σ.zone) (hs:l.length≤16777216) (h:P (!l.isEmpty) σ):TT g A F (.raw (.ref D)) σ P:=fun s v S hv Q E k=>by
 cases hv
 obtain ⟨items,n,ho,hl⟩:=S.zs _ hz
 have hsz:=hl.toArray
 refine wpAny_truthy_list ⟨_,ho,rfl,_,rfl⟩ (by omega) ?_
 have e:(!items.isEmpty) = !l.isEmpty:=by
  have e1:items.isEmpty=decide (items.size=0):=rfl
  rw [e1,hsz]; cases l <;> simp
 rw [e]
 exact k _ σ _ h (S.toks _) .toks
structure Fn (g:Gl) (i:Nat) (nm:Str) (f:Addr):Prop where
 glob:g.Glob nm (.ref f)
 at_:∃ c pm,FnAt g f (mkF i nm c pm) (fB i)
theorem EV_det {g:Gl} {A:Around} {F:Fm} {σ:AS} {e:Expr} {P:PV→AS→Prop} (v:PV) (h:EV g A F e σ fun p σ₁=>p=v∧σ₁=σ) (k:P v σ):EV g A F e σ P:=J.mono h fun p σ₁ ⟨a,b⟩=>by rw [a,b]; exact k
theorem TR_det {g:Gl} {A:Around} {F:Fm} {σ:AS} {e:Expr} {P:Bool→AS→Prop} (v:Bool) (h:TR g A F e σ fun p σ₁=>p=v∧σ₁=σ) (k:P v σ):TR g A F e σ P:=J.mono h fun p σ₁ ⟨a,b⟩=>by rw [a,b]; exact k
section
variable {g:Gl} {A:Around} {F:Fm} {σ:AS} {P:PV→AS→Prop} {value slice:Expr}
theorem idx_last {n:Nat} (h:n≠0):seqIndex? (-1) n=some (n - 1):=by
 rw [StrLaws.seqIndex_neg (by decide) (by omega)]
 congr 1; omega
theorem getD_last {α:Type} {l:List α} (d:α) (h:l≠[]):l[l.length - 1]?=some (l.getD (l.length - 1) d):=by
 have:l.length≠0:=fun q=>h (List.eq_nil_of_length_eq_zero q)
 rw [List.getD_eq_getElem?_getD,List.getElem?_eq_getElem (by omega)]; rfl
theorem IX_lLast {l:List PV} (d:PV) (hl:l≠[]) (hz:l.length≤16777216) (h:P (l.getD (l.length - 1) d) σ)
  (hs:∀ v u,subscripted slice false v u=operate [v,u] (getItem v u):=by intro _ _; with_unfolding_all rfl):IX g A F value slice (.lst l) (.int (-1)) σ P :=
 IX_l (idx_last fun q=>hl (List.eq_nil_of_length_eq_zero q)) (getD_last d hl) hz h hs
theorem IX_tLast {l:List Nat} (hl:l≠[]) (hz:l.length≤16777216) (h:P (tx [l.getD (l.length - 1) 0]) σ)
  (hs:∀ v u,subscripted slice false v u=operate [v,u] (getItem v u):=by intro _ _; with_unfolding_all rfl):IX g A F value slice (tx l) (.int (-1)) σ P :=
 IX_t (idx_last fun q=>hl (List.eq_nil_of_length_eq_zero q)) (getD_last 0 hl) hz h hs
theorem IX_zLast {D:Addr} {l:List PV} (d:PV) (hz':(D,.list l)∈σ.zone) (hl:l≠[]) (hz:l.length≤16777216) (h:P (l.getD (l.length - 1) d) σ)
  (hs:∀ v u,subscripted slice false v u=operate [v,u] (getItem v u):=by intro _ _; with_unfolding_all rfl):IX g A F value slice (.raw (.ref D)) (.int (-1)) σ P :=
 IX_z hz' (idx_last fun q=>hl (List.eq_nil_of_length_eq_zero q)) (getD_last d hl) hz h hs
theorem IX_zD {D:Addr} {l:List PV} {i:Int} (d:PV) (hz':(D,.list l)∈σ.zone) (h0:0≤i) (h1:i < l.length) (hz:l.length≤16777216) (h:P (l.getD i.toNat d) σ)
    (hs : ∀ v u, subscripted slice false v u = operate [v, u] (getItem v u) := by intro _ _; with_unfolding_all rfl) : IX g A F value slice (.raw (.ref D)) (.int i) σ P :=
  IX_z hz' (j := i.toNat) (idx_ok h0 h1) (by rw [List.getD_eq_getElem?_getD]; have : i.toNat < l.length := by omega
                                             simp [List.getElem?_eq_getElem this]) hz h hs
theorem IX_tupD {l:List PV} {i:Int} (d:PV) (h0:0≤i) (h1:i < l.length) (hz:l.length≤16777216) (h:P (l.getD i.toNat d) σ)
    (hs : ∀ v u, subscripted slice false v u = operate [v, u] (getItem v u) := by intro _ _; with_unfolding_all rfl) : IX g A F value slice (.tup l) (.int i) σ P :=
  IX_tup (j := i.toNat) (idx_ok h0 h1) (by rw [List.getD_eq_getElem?_getD]; have : i.toNat < l.length := by omega
                                           simp [List.getElem?_eq_getElem this]) hz h hs
end
end SB1
local macro_rules | `(tactic| walk_at "env")=>`(tactic| first | assumption | exact fnEnv_cFm (by walk_at "env") (by with_unfolding_all rfl))
local macro_rules | `(tactic| walk_at "lit")=>`(tactic| first | exact lit22 | exact lit2 | exact lit20 | exact lit23 | exact lit17 | exact lit1 | exact lit10 | exact lit11 | exact lit12 | exact lit13 | exact lit14 | exact lit15 | exact lit16 | exact lit18 | exact lit19 | exact lit21 | exact lit25 | exact lit26 | exact lit27 | exact lit28 | exact lit29 | exact lit30 | exact lit31 | exact lit32 | exact lit33 | exact lit34 | exact lit35 | exact lit36 | exact lit37 | exact lit38 | exact lit39 | exact lit40 | exact lit41 | exact lit42)
local macro_rules | `(tactic| walk_at "asg")=>`(tactic| first | refine ASGs_nil ?_ | refine ASGs_bind (by walk_at "env") ?_ | refine ASGs_name (by walk_at "env") ?_ | refine ASGs_cell (by walk_at "env") ?_)
local macro_rules | `(tactic| walk_at "sub")=>`(tactic| repeat (first | exact Sub.nil | refine Sub.cons (by with_unfolding_all rfl) ?_))
local macro_rules | `(tactic| walk_at "st")=>`(tactic| first
 | with_reducible refine EXs_cons ?_ | with_reducible refine EXs_nil ?_
 | with_reducible refine EX_Assign_Name (by walk_at "env") ?_ | with_reducible refine EX_Assign_Cell (by walk_at "env") ?_ | with_reducible refine EX_Aug_Name (by walk_at "env") (by with_unfolding_all rfl) ?_ | with_reducible refine EX_Return ?_ | with_reducible refine EX_If ?_ | with_reducible refine EX_Expr ?_ | with_reducible refine EX_Return_none ?_ | with_reducible refine EX_Break ?_ | with_reducible refine EX_Continue ?_ | with_reducible refine EX_Pass ?_
 | with_reducible refine EV_local (by walk_at "env") (by with_unfolding_all rfl) ?_ | with_reducible refine EV_int ?_ | with_reducible refine EV_strL _ ?_ (by walk_at "lit") | with_reducible refine EV_BinOp ?_ | with_reducible refine EV_Tuple ?_ | with_reducible refine EVs_nil ?_ | with_reducible refine EVs_cons ?_ | with_reducible refine EV_Compare ?_ | with_reducible refine EV_IfExp ?_ | with_reducible refine EV_none ?_ | with_reducible refine EV_bool ?_
 | with_reducible refine EV_SubSlice ?_ | with_reducible refine EV_Subscript ?_ | with_reducible refine EV_Unary ?_
 | with_reducible refine TR_Compare ?_ | with_reducible refine TR_Not ?_ | with_reducible refine TR_BoolOp ?_ | with_reducible refine TRs_nil ?_ | with_reducible refine TRs_cons ?_ | with_reducible refine TR_plain ?_
 | with_reducible refine mod_ii (by decide) ?_ | with_reducible refine div_ii (by decide) (PyProof.noPylong_small (by decide)) ?_ | with_reducible refine add_ii ?_ | with_reducible refine sub_ii ?_ | with_reducible refine c_eq_ii ?_ | with_reducible refine c_ne_ii ?_ | with_reducible refine c_lt_ii ?_ | with_reducible refine c_le_ii ?_ | with_reducible refine c_gt_ii ?_ | with_reducible refine c_ge_ii ?_
 | with_reducible refine c_eq_tt ?_ | with_reducible refine c_ne_tt ?_ | with_reducible refine c_in_ct ?_ | with_reducible refine c_notin_ct ?_ | with_reducible refine TT_bool ?_ | with_reducible refine neg_i ?_ | with_reducible refine c_ne_bb ?_ | with_reducible refine isub_ii ?_ | with_reducible refine iadd_ii ?_ | with_reducible refine PT_none ?_ | with_reducible refine PT_some ?_
 | with_reducible refine And.intro (Nat.le_of_ble_eq_true (by with_unfolding_all rfl)) ?_ | with_reducible refine And.intro (by with_unfolding_all exact trivial) ?_)
section SL1word
def octPick (q:Int):Nat:=[190,255,0,((q.fdiv 4).fmod 256).toNat].getD (q.fmod 4).toNat 0
def octs4:Nat→Int→List Nat
 | 0,_=>[]
 | k + 1,q=>octPick q :: octs4 k (q.fdiv 4)
def gapOf (n:Int):List Nat:=[[32],[9],[32,32],[9,32]].getD ((n.fdiv 24).fmod 4).toNat []
theorem octPick_pv (q:Int):[PV.int 190,.int 255,.int 0,.int ((q.fdiv 4).fmod 256)].getD (q.fmod 4).toNat (.int 0)=.int (octPick q:Nat):=by
 have h:=fmod_range q 4 (by decide)
 have h2:=fmod_range (q.fdiv 4) 256 (by decide)
 obtain ⟨m,hm⟩:=Int.eq_ofNat_of_zero_le h.1
 have hm4:m < 4:=by omega
 unfold octPick
 rw [hm]
 match m,hm4 with
 | 0,_=>rfl
 | 1,_=>rfl
 | 2,_=>rfl
 | 3,_ =>
  show PV.int ((q.fdiv 4).fmod 256)=PV.int ((((q.fdiv 4).fmod 256).toNat:Nat):Int)
  rw [Int.toNat_of_nonneg h2.1]
variable {g:Gl} {A:Around} {F:Fm} {σ:AS}
theorem law_word_spec {f c:Addr} {pm:Value} {n:Int} {P:PV→AS→Prop} (hr:Rm A 1) (hf:FnAt g f (mkF 26 "_law_word" c pm) (fB 26)) (hrange:g.Blt "range" (.type "range"))
  (h:P (.tup [tx (gapOf n),octL (octs4 ((n.fmod 6).toNat + 1) (n.fdiv 6))]) σ):CL g A F (.ref f) [.int n] σ P:=by
 refine CL_fnE (n:=0) (xs:=["n"]) hr hf (by decide) rfl (fun vs hv=>?_) (by rfl) (by rfl) fun L=>?_
 ·match vs,hv with | [v],_=>rfl
 ·have hk:FnEnv (fnFm (mkF 26 "_law_word" c pm) L f):=fnEnv_mkF rfl
  refine EXs_cons ?_
  refine EX_Assign_swapped (names:=["octets","q"]) hr.deeper ?_
  walk_at "st"
  walk_at "st"
  refine EV_List_new ?_
  walk_at "st"
  refine ⟨by decide,fun D=>?_⟩
  repeat walk_at "st"
  refine ⟨_,rfl,rfl,?_⟩
  repeat walk_at "asg"
  refine EXs_cons ?_
  refine EX_ForS ?_
  refine SRC_range hr.deeper ?_
  refine EV_builtin hk hrange ?_
  refine ⟨rfl,?_⟩
  repeat walk_at "st"
  have h6:=fmod_range n 6 (by decide)
  obtain ⟨m,hm⟩:=Int.eq_ofNat_of_zero_le h6.1
  have hm6:m < 6:=by omega
  rw [hm] at h ⊢
  refine ⟨_,_,_,.one _,small_range (by omega) (by omega),?_⟩
  rw [range1 (k:=m + 1) (by omega)]
  refine ForP_ind (fun xs σ'=>∃ (q:Int) (done:List Nat),σ'=⟨[("n",.int n),("q",.int q),("octets",.raw (.ref D))],(D,.list (done.map fun (k:Nat)=>.int k)) :: σ.zone⟩∧done++octs4 xs.length q=octs4 (m + 1) (n.fdiv 6)∧done.length + xs.length≤10) ?_ ?_ _ _ ?_
  ·rintro _ ⟨q,done,rfl,hd,hl⟩
   repeat walk_at "st"
   refine EV_List ?_
   repeat walk_at "st"
   have h4:=fmod_range (n.fdiv 24) 4 (by decide)
   refine IX_lD (tx []) h4.1 h4.2 (by decide) ?_
   walk_at "st"
   refine EV_freeze ?_
   repeat walk_at "st"
   refine ⟨D,_,_,rfl,rfl,?_⟩
   repeat walk_at "st"
   refine Ends.mk [] rfl ?_
   have e1:[tx [32],tx [9],tx [32,32],tx [9,32]].getD ((n.fdiv 24).fmod 4).toNat (tx [])=tx (gapOf n):=by
    obtain ⟨j,hj⟩:=Int.eq_ofNat_of_zero_le h4.1
    have hj4:j < 4:=by omega
    unfold gapOf
    rw [hj]
    match j,hj4 with
    | 0,_=>rfl
    | 1,_=>rfl
    | 2,_=>rfl
    | 3,_=>rfl
   rw [e1]
   have e2:done=octs4 (m + 1) (n.fdiv 6):=by rw [← hd]; exact (List.append_nil _).symm
   rw [e2]
   exact h
  ·rintro x xs _ ⟨q,done,rfl,hd,hl⟩
   refine AS1_name hk ?_
   repeat walk_at "st"
   refine EV_append ?_
   repeat walk_at "st"
   refine ⟨D,_,rfl,List.mem_cons_self,?_⟩
   repeat walk_at "st"
   refine EV_List ?_
   repeat walk_at "st"
   have h4:=fmod_range q 4 (by decide)
   refine IX_lD (.int 0) h4.1 h4.2 (by simp) ?_
   rw [octPick_pv]
   refine ⟨_,_,.head,by rw [List.length_map]; simp at hl; omega,?_⟩
   repeat walk_at "st"
   refine ⟨_,Sub.weak' (loc':=[("n",.int n),("q",.int (q.fdiv 4)),("octets",.raw (.ref D))]) (by walk_at "sub") rfl,fun _ h=>h,q.fdiv 4,done++[octPick q],?_,?_,?_⟩
   ·rw [List.map_append]; rfl
   ·rw [← hd]; simp [octs4]
   ·simp at hl ⊢; omega
  ·exact ⟨n.fdiv 6,[],rfl,by simp,by simp; omega⟩
end SL1word
section SL1writing
def valueOf (l:List Nat):Nat:=l.foldl (fun v o=>v * 256 + o) 0
def shiftOf (n:Nat):Nat:=((-8 * (n:Int)).fmod 6).toNat
def figuresOf (octs:List Nat):List Nat:=(List.range ((8 * octs.length + 5) / 6)).map fun k=>valueOf octs * 2 ^ shiftOf octs.length / 64 ^ k % 64
def padOf (n:Nat):Nat:=((-(n:Int)).fmod 3).toNat
def writing (octs alts:List Nat):List Nat:=((figuresOf octs).reverse.map fun i=>(tab64++alts).getD i 0)++List.replicate (padOf octs.length) 61
theorem tab64_len:tab64.length=62:=rfl
theorem sum_ones {α:Type} (f:α→Nat):∀ l:List α,((l.map fun x=>[f x]).map (·.length)).sum=l.length
 | []=>rfl
 | x :: r=>by
  have:=sum_ones f r
  simp only [List.map_cons,List.sum_cons,List.length_cons,List.length_nil] at this ⊢
  omega
theorem flat_ones {α:Type} (f:α→Nat):∀ l:List α,(l.map fun x=>[f x]).flatten=l.map f
 | []=>rfl
 | x :: r=>by simp [flat_ones f r]
theorem flat_rep1 (n c:Nat):(List.replicate n [c]).flatten=List.replicate n c:=by
 induction n with
 | zero=>rfl
 | succ n ih=>simp [List.replicate_succ,ih]
variable {g:Gl} {A:Around} {F:Fm} {σ:AS}
theorem law_writing_spec {f c:Addr} {pm:Value} {octs alts:List Nat} {P:PV→AS→Prop} (hr:Rm A 1) (hf:FnAt g f (mkF 27 "_law_writing" c pm) (fB 27)) (hrange:g.Blt "range" (.type "range")) (hlen:g.Blt "len" (.builtin "len")) (hrev:g.Blt "reversed" (.type "reversed"))
  (ho:octs.length≤8) (h256:∀ o∈octs,o < 256) (ha:alts.length=2)
  (h:P (tx (writing octs alts)) σ):CL g A F (.ref f) [octL octs,tx alts] σ P:=by
 refine CL_fnC (n:=0) (xs:=["octets","alts"]) hr hf rfl (by decide) rfl (fun vs hv=>?_) (by rfl) (by rfl) fun L=>?_
 ·match vs,hv with | [v,u],_=>rfl
 ·have hk:FnEnv (fnFmC (mkF 27 "_law_writing" c pm) L f):=fnEnv_mkFC rfl
  refine EXs_cons ?_
  repeat walk_at "st"
  have htl:tab64.length=62:=rfl
  refine add_tt (by omega) ?_
  walk_at "st"
  refine EX_Assign_Tuple hr.deeper ?_
  repeat walk_at "st"
  refine EV_Call_flat ?_
  refine EV_builtin hk hlen ?_
  refine ⟨_,rfl,rfl,?_⟩
  repeat walk_at "st"
  refine CL_len_l (by rw [List.length_map]; omega) ?_
  repeat walk_at "st"
  refine ⟨_,rfl,rfl,?_⟩
  repeat walk_at "asg"
  refine EXs_cons ?_
  refine EX_For ?_
  repeat walk_at "st"
  refine ⟨_,IT_lst hr.deeper,?_⟩
  refine ForP_ind (fun xs σ'=>∃ (v:Nat) (rest:List Nat),xs=rest.map (fun (k:Nat)=>.int k)∧σ'=⟨[("octets",octL octs),("alts",tx alts),("table",tx (tab64++alts)),("value",.int v),("many",.int octs.length)],σ.zone⟩∧rest.foldl (fun v o=>v * 256 + o) v=valueOf octs) ?_ ?_ _ _ ?_
  ·rintro _ ⟨v,rest,hx,rfl,hv⟩
   have hrest:rest=[]:=by cases rest with | nil=>rfl | cons a b=>cases hx
   subst hrest
   have hv':v=valueOf octs:=hv
   subst hv'
   walk_at "st"
   refine EXs_cons ?_
   repeat walk_at "st"
   refine mul_ii (mulOk_right (by omega)) ?_
   repeat walk_at "st"
   have he:=fmod_range (-8 * (octs.length:Int)) 6 (by decide)
   refine pow_ii he.1 (pow_ok (k:=2) (by decide) he.1 (by omega)) ?_
   have hpow:(2:Int) ^ ((-8 * (octs.length:Int)).fmod 6).toNat=((2 ^ shiftOf octs.length:Nat):Int):=by rw [Int.natCast_pow]; rfl
   rw [hpow]
   have hsh:2 ^ shiftOf octs.length < 2 ^ 6:=Nat.pow_lt_pow_right (by decide) (by unfold shiftOf; omega)
   refine mul_ii (mulOk_right (by rw [Int.natAbs_natCast]; omega)) ?_
   rw [← Int.natCast_mul]
   refine EXs_cons ?_
   refine EX_Assign_Comp (cl:=[("value",L + 2)]) (caps:=["value"]) hk ⟨rfl,rfl,rfl,rfl,fun x hx=>?_⟩ ?_
   ·rw [List.mem_singleton] at hx; subst hx; exact ⟨rfl,rfl,rfl⟩
   refine SRC_range hr.deeper ?_
   refine EV_builtin hk hrange ?_
   refine ⟨rfl,?_⟩
   repeat walk_at "st"
   refine mul_ii (mulOk_right (by rw [Int.natAbs_natCast]; omega)) ?_
   repeat walk_at "st"
   have hmany:(8 * (octs.length:Int) + 5).fdiv 6=(((8 * octs.length + 5) / 6:Nat):Int):=fdivN (8 * octs.length + 5) 6
   rw [hmany]
   refine ⟨_,_,_,.one _,small_range (by omega) (by omega),?_⟩
   rw [range1 (k:=(8 * octs.length + 5) / 6) rfl]
   intro D C
   refine CompP_mapL (fun (k:Nat)=>.int (k:Int)) (fun (k:Nat)=>.int ((valueOf octs * 2 ^ shiftOf octs.length / 64 ^ k % 64:Nat):Int)) ?_ (by simp; omega) ?_
   ·intro k hk' acc
    have hkb:=List.mem_range.mp hk'
    refine AS1_name (fnEnv_cFm hk rfl) ?_
    repeat walk_at "st"
    refine pow_ii (by omega) (pow_ok (k:=7) (by decide) (by omega) (by omega)) ?_
    have hp64:(64:Int) ^ (k:Int).toNat=((64 ^ k:Nat):Int):=by rw [Int.toNat_natCast,Int.natCast_pow]; rfl
    rw [hp64]
    have hlt64:64 ^ k < 2 ^ 200:=by
     have:(64:Nat)=2 ^ 6:=by decide
     rw [this,← Nat.pow_mul]
     exact Nat.pow_lt_pow_right (by decide) (by omega)
    have hpos64:0 < 64 ^ k:=Nat.pow_pos (by decide)
    refine div_ii (by omega) (PyProof.noPylong_of_log2 ?_) ?_
    ·rw [Int.natAbs_natCast]
     have:=(Nat.log2_lt (n:=64 ^ k) (by omega)).mpr hlt64
     omega
    repeat walk_at "st"
    rw [fdivN]
    have e64:((valueOf octs * 2 ^ shiftOf octs.length / 64 ^ k:Nat):Int).fmod 64=((valueOf octs * 2 ^ shiftOf octs.length / 64 ^ k % 64:Nat):Int):=fmodN _ 64
    rw [e64]
    exact ⟨rfl,rfl,by walk_at "sub"⟩
   refine EXs_cons ?_
   repeat walk_at "st"
   refine EV_Meth ?_
   repeat walk_at "st"
   refine ⟨_,MT_join,?_⟩
   repeat walk_at "st"
   refine EV_ListComp (cl:=[("table",L + 1)]) (caps:=["table"]) ⟨rfl,rfl,rfl,rfl,fun x hx=>?_⟩ ?_
   ·rw [List.mem_singleton] at hx; subst hx; exact ⟨rfl,rfl,rfl⟩
   refine SRC_reversed hr.deeper ?_
   refine EV_builtin hk hrev ?_
   refine ⟨rfl,?_⟩
   repeat walk_at "st"
   refine ⟨_,rfl,?_⟩
   intro D' C'
   have hfig:([]++(List.range ((8 * octs.length + 5) / 6)).map fun (k:Nat)=>PV.int ((valueOf octs * 2 ^ shiftOf octs.length / 64 ^ k % 64:Nat):Int)).reverse=(figuresOf octs).reverse.map fun (k:Nat)=>PV.int (k:Int):=by
    rw [List.nil_append,figuresOf,← List.map_reverse,← List.map_reverse,List.map_map]; rfl
   rw [hfig]
   have hfl:(figuresOf octs).length≤20:=by simp only [figuresOf,List.length_map,List.length_range]; omega
   refine CompP_mapL (fun (k:Nat)=>.int (k:Int)) (fun (k:Nat)=>tx [(tab64++alts).getD k 0]) ?_ (by simp; omega) ?_
   ·intro k hk' acc
    have hk64:k < 64:=by
     rw [List.mem_reverse,figuresOf,List.mem_map] at hk'
     obtain ⟨j,_,rfl⟩:=hk'
     exact Nat.mod_lt _ (by decide)
    refine AS1_name (fnEnv_cFm hk rfl) ?_
    repeat walk_at "st"
    refine IX_tD (by omega) (by simp; omega) (by simp; omega) ?_
    exact ⟨rfl,rfl,by walk_at "sub"⟩
   repeat walk_at "st"
   have hj:([]++(figuresOf octs).reverse.map fun (k:Nat)=>tx [(tab64++alts).getD k 0])=((figuresOf octs).reverse.map fun k=>[(tab64++alts).getD k 0]).map tx:=by rw [List.nil_append,List.map_map]; rfl
   rw [hj]
   refine CL_join (by unfold JoinFit; rw [sum_ones]; simp; omega) ?_
   rw [joinL_nil,flat_ones]
   repeat walk_at "st"
   have h3:=fmod_range (-(octs.length:Int)) 3 (by decide)
   refine mul_ti (by decide) (by omega) (by omega) ?_
   rw [flat_rep1]
   refine add_tt (by simp; omega) ?_
   exact Ends.mk [] rfl h
  ·rintro x xs _ ⟨v,rest,hx,rfl,hv⟩
   cases rest with
   | nil=>cases hx
   | cons o rest =>
    cases hx
    refine AS1_name hk ?_
    repeat walk_at "st"
    refine mul_ii (mulOk_right (by decide)) ?_
    repeat walk_at "st"
    refine ⟨_,Sub.weak' (loc':=[("octets",octL octs),("alts",tx alts),("table",tx (tab64++alts)),("value",.int ((v:Int) * 256 + o)),("many",.int octs.length)]) (by walk_at "sub") rfl,fun _ h=>h,v * 256 + o,rest,rfl,rfl,hv⟩
  ·exact ⟨0,octs,rfl,by rw [List.length_map]; rfl,rfl⟩
end SL1writing
section SL1words
structure Word where
 gap:List Nat
 octs:List Nat
 text:List Nat
def Word.pv (w:Word):PV:=.tup [tx w.gap,octL w.octs,tx w.text]
def octsOf (n:Int):List Nat:=octs4 ((n.fmod 6).toNat + 1) (n.fdiv 6)
def wordsGo (alts:List Nat) (bare:Bool):Bool→List Int→List Word
 | _,[]=>[]
 | first,n :: ns=>⟨if bare && first then [] else gapOf n,octsOf n,writing (octsOf n) alts⟩ :: wordsGo alts bare false ns
theorem octs4_len:∀ k q,(octs4 k q).length=k
 | 0,_=>rfl
 | k + 1,q=>by simp [octs4,octs4_len k]
theorem octPick_lt (q:Int):octPick q < 256:=by
 have h2:=fmod_range (q.fdiv 4) 256 (by decide)
 unfold octPick
 generalize (q.fmod 4).toNat=j
 match j with
 | 0=>exact (by decide:190 < 256)
 | 1=>exact (by decide:255 < 256)
 | 2=>exact (by decide:0 < 256)
 | 3=>show ((q.fdiv 4).fmod 256).toNat < 256; omega
 | j + 4=>exact (by decide:0 < 256)
theorem octs4_lt:∀ k q,∀ o∈octs4 k q,o < 256
 | 0,_,o,h=>by simp [octs4] at h
 | k + 1,q,o,h=>by
  rcases List.mem_cons.mp h with rfl | h
  ·exact octPick_lt q
  ·exact octs4_lt k _ o h
theorem octsOf_len (n:Int):(octsOf n).length≤6:=by
 have:=fmod_range n 6 (by decide)
 unfold octsOf; rw [octs4_len]; omega
theorem octsOf_lt (n:Int):∀ o∈octsOf n,o < 256:=octs4_lt _ _
variable {g:Gl} {A:Around} {F:Fm} {σ:AS}
theorem law_words_spec {f fw fr:Addr} {ns:List Int} {alts:List Nat} {bare:Bool} {P:PV→AS→Prop} (hr:Rm A 2) (hf:Fn g 28 "_law_words" f) (hw:Fn g 26 "_law_word" fw) (hwr:Fn g 27 "_law_writing" fr)
  (hrange:g.Blt "range" (.type "range")) (hlen:g.Blt "len" (.builtin "len")) (hrev:g.Blt "reversed" (.type "reversed")) (ha:alts.length=2) (hn:ns.length≤100)
  (h:P (.lst ((wordsGo alts bare true ns).map Word.pv)) σ):CL g A F (.ref f) [.lst (ns.map .int),tx alts,.raw (.bool bare)] σ P:=by
 obtain ⟨c,pm,hfa⟩:=hf.at_
 obtain ⟨cw,pmw,hfw⟩:=hw.at_
 obtain ⟨cr,pmr,hfr⟩:=hwr.at_
 refine CL_fnE (n:=1) (xs:=["numbers","alts","bare"]) hr hfa (by decide) rfl (fun vs hv=>?_) (by rfl) (by rfl) fun L=>?_
 ·match vs,hv with | [v,u,w],_=>rfl
 ·have hk:FnEnv (fnFm (mkF 28 "_law_words" c pm) L f):=fnEnv_mkF rfl
  refine EXs_cons ?_
  repeat walk_at "st"
  refine EV_List_new ?_
  walk_at "st"
  refine ⟨by decide,fun D=>?_⟩
  walk_at "st"
  refine EX_For ?_
  repeat walk_at "st"
  have hr0:=hr.deeper (env:=callEnv (mkF 28 "_law_words" c pm) L f)
  refine ⟨_,IT_lst (hr0.le (Nat.zero_le _)),?_⟩
  refine ForP_ind (fun xs σ'=>∃ (done:List Word) (rest:List Int),xs=rest.map .int∧σ'=⟨[("numbers",.lst (ns.map .int)),("alts",tx alts),("bare",.raw (.bool bare)),("words",.raw (.ref D))],(D,.list (done.map Word.pv)) :: σ.zone⟩∧done++wordsGo alts bare done.isEmpty rest=wordsGo alts bare true ns∧done.length + rest.length≤100) ?_ ?_ _ _ ?_
  ·rintro _ ⟨done,rest,hx,rfl,hd,hl⟩
   have hrest:rest=[]:=by cases rest with | nil=>rfl | cons a b=>cases hx
   subst hrest
   walk_at "st"
   refine EXs_cons (EX_Return (EV_freeze ?_))
   walk_at "st"
   refine ⟨D,_,_,rfl,rfl,Ends.mk [] rfl ?_⟩
   have e:done=wordsGo alts bare true ns:=by rw [← hd]; simp [wordsGo]
   rw [e]; exact h
  ·rintro x xs _ ⟨done,rest,hx,rfl,hd,hl⟩
   cases rest with
   | nil=>cases hx
   | cons n rest =>
    cases hx
    refine AS1_name hk ?_
    refine EXs_cons ?_
    refine EX_Assign_Tuple (hr0.le (Nat.zero_le _)) ?_
    refine EV_Call_fn hfw ?_
    refine EV_global hk hw.glob ?_
    refine ⟨rfl,?_⟩
    repeat walk_at "st"
    refine law_word_spec hr0 hfw hrange ?_
    refine ⟨_,rfl,rfl,?_⟩
    repeat walk_at "asg"
    refine EXs_cons ?_
    walk_at "st"
    refine EV_append ?_
    repeat walk_at "st"
    refine ⟨D,_,rfl,List.mem_cons_self,?_⟩
    walk_at "st"
    walk_at "st"
    have hdl:done.length≤100:=by simp at hl; omega
    refine EV_det (tx (if bare && done.isEmpty then [] else gapOf n)) ?_ ?_
    ·refine EV_IfExp ?_
     refine TR_det (bare && done.isEmpty) ?_ ?_
     ·walk_at "st"
      refine TRs_cons ?_
      repeat walk_at "st"
      cases bare with
      | false=>exact ⟨rfl,rfl⟩
      | true =>
       refine TRs_cons ?_
       refine TR_Not ?_
       repeat walk_at "st"
       refine TT_z List.mem_cons_self (by rw [List.length_map]; omega) ?_
       have e:(List.map Word.pv done).isEmpty=done.isEmpty:=by cases done <;> rfl
       rw [e]
       cases done with
       | nil=>exact TRs_nil ⟨rfl,rfl⟩
       | cons a b=>exact ⟨rfl,rfl⟩
     ·cases bare && done.isEmpty with
      | false =>
       show EV _ _ _ _ _ _
       repeat walk_at "st"
       exact ⟨rfl,rfl⟩
      | true =>
       show EV _ _ _ _ _ _
       repeat walk_at "st"
       exact ⟨rfl,rfl⟩
    repeat walk_at "st"
    refine EV_Call_fn hfr ?_
    refine EV_global hk hwr.glob ?_
    refine ⟨rfl,?_⟩
    repeat walk_at "st"
    refine law_writing_spec (octs:=octsOf n) hr0 hfr hrange hlen hrev (by have:=octsOf_len n; omega) (octsOf_lt n) ha ?_
    repeat walk_at "st"
    refine ⟨_,_,.head,by rw [List.length_map]; omega,?_⟩
    repeat walk_at "st"
    refine ⟨_,Sub.weak' (loc':=[("numbers",.lst (ns.map .int)),("alts",tx alts),("bare",.raw (.bool bare)),("words",.raw (.ref D))]) (by walk_at "sub") rfl,fun _ h=>h,done++[⟨if bare && done.isEmpty then [] else gapOf n,octsOf n,writing (octsOf n) alts⟩],rest,rfl,?_,?_,?_⟩
    ·rw [List.map_append]; rfl
    ·rw [← hd]
     have e:(done++[(⟨if bare && done.isEmpty then [] else gapOf n,octsOf n,writing (octsOf n) alts⟩:Word)]).isEmpty=false:=by simp
     rw [e]
     simp [wordsGo]
    ·simp at hl ⊢; omega
  ·exact ⟨[],ns,rfl,rfl,rfl,by simpa using hn⟩
end SL1words
section SL1small
def altsOf (x:Int):List Nat:=[sgn20.getD (x.fmod 20).toNat 0,sgn20.getD ((x.fmod 20 + 1 + (x.fdiv 20).fmod 19).fmod 20).toNat 0]
def patternOf (c:Nat):List Nat:=if c∈[32,9] then [42]++[c]++[91,33,32,9,93,42] else [42,91,32,9,93]++(if c∈[42,63,91] then [91]++[c]++[93] else [c])++[42]
def lastOf (octs alts:List Nat):List Nat:=if octs.length % 3≠0 then [61] else (([(62,[alts.getD 0 0]),(63,[alts.getD 1 0])]:List (Nat × List Nat)).lookup (octs.getD (octs.length - 1) 0 % 64)).getD []
variable {g:Gl} {A:Around} {F:Fm} {σ:AS}
theorem law_alts_spec {f:Addr} {x:Int} {P:PV→AS→Prop} (hr:Rm A 1) (hf:Fn g 25 "_law_alts" f) (h:P (tx (altsOf x)) σ):CL g A F (.ref f) [.int x] σ P:=by
 obtain ⟨c,pm,hfa⟩:=hf.at_
 refine CL_fnE (n:=0) (xs:=["x"]) hr hfa (by decide) rfl (fun vs hv=>?_) (by rfl) (by rfl) fun L=>?_
 ·match vs,hv with | [v],_=>rfl
 ·have hk:FnEnv (fnFm (mkF 25 "_law_alts" c pm) L f):=fnEnv_mkF rfl
  have h1:=fmod_range x 20 (by decide)
  have h2:=fmod_range (x.fmod 20 + 1 + (x.fdiv 20).fmod 19) 20 (by decide)
  have hl:sgn20.length=20:=rfl
  refine EXs_cons ?_
  repeat walk_at "st"
  refine IX_tD h1.1 (by rw [hl]; exact h1.2) (by rw [hl]; decide) ?_
  repeat walk_at "st"
  refine IX_tD h2.1 (by rw [hl]; exact h2.2) (by rw [hl]; decide) ?_
  refine add_tt (by simp) ?_
  exact Ends.mk [] rfl h
theorem law_pattern_spec {f:Addr} {x:Nat} {P:PV→AS→Prop} (hr:Rm A 1) (hf:Fn g 29 "_law_pattern" f) (h:P (tx (patternOf x)) σ):CL g A F (.ref f) [tx [x]] σ P:=by
 obtain ⟨c,pm,hfa⟩:=hf.at_
 refine CL_fnE (n:=0) (xs:=["sign"]) hr hfa (by decide) rfl (fun vs hv=>?_) (by rfl) (by rfl) fun L=>?_
 ·match vs,hv with | [v],_=>rfl
 ·have hk:FnEnv (fnFm (mkF 29 "_law_pattern" c pm) L f):=fnEnv_mkF rfl
  refine EXs_cons ?_
  repeat walk_at "st"
  unfold patternOf at h
  by_cases hc:x∈[32,9]
  ·rw [if_pos hc] at h
   rw [decide_eq_true hc]
   show EXs _ _ _ _ _ _
   repeat walk_at "st"
   refine add_tt (by simp) ?_
   repeat walk_at "st"
   refine add_tt (by simp) ?_
   exact Ends.mk [] rfl h
  ·rw [if_neg hc] at h
   rw [decide_eq_false hc]
   show EXs _ _ _ _ _ _
   repeat walk_at "st"
   by_cases hc2:x∈[42,63,91]
   ·rw [if_pos hc2] at h
    rw [decide_eq_true hc2]
    show EV _ _ _ _ _ _
    repeat walk_at "st"
    refine add_tt (by simp) ?_
    repeat walk_at "st"
    refine add_tt (by simp) ?_
    refine add_tt (by simp) ?_
    repeat walk_at "st"
    refine add_tt (by simp) ?_
    exact Ends.mk [] rfl h
   ·rw [if_neg hc2] at h
    rw [decide_eq_false hc2]
    show EV _ _ _ _ _ _
    repeat walk_at "st"
    refine add_tt (by simp) ?_
    repeat walk_at "st"
    refine add_tt (by simp) ?_
    exact Ends.mk [] rfl h
theorem law_last_spec {f:Addr} {octs alts:List Nat} {P:PV→AS→Prop} (hr:Rm A 1) (hf:Fn g 31 "_law_last" f) (hlen:g.Blt "len" (.builtin "len")) (ho:octs.length≤8) (h0:octs≠[]) (ha:alts.length=2) (h:P (tx (lastOf octs alts)) σ):CL g A F (.ref f) [octL octs,tx alts] σ P:=by
 obtain ⟨c,pm,hfa⟩:=hf.at_
 refine CL_fnE (n:=0) (xs:=["octets","alts"]) hr hfa (by decide) rfl (fun vs hv=>?_) (by rfl) (by rfl) fun L=>?_
 ·match vs,hv with | [v,u],_=>rfl
 ·have hk:FnEnv (fnFm (mkF 31 "_law_last" c pm) L f):=fnEnv_mkF rfl
  refine EXs_cons ?_
  repeat walk_at "st"
  refine EV_Call_flat ?_
  refine EV_builtin hk hlen ?_
  refine ⟨_,rfl,rfl,?_⟩
  repeat walk_at "st"
  refine CL_len_l (by rw [List.length_map]; omega) ?_
  repeat walk_at "st"
  refine TT_int ?_
  rw [List.length_map]
  have e3:(octs.length:Int).fmod 3=((octs.length % 3:Nat):Int):=fmodN _ 3
  rw [e3]
  unfold lastOf at h
  by_cases hc:octs.length % 3≠0
  ·rw [if_pos hc] at h
   have:((octs.length % 3:Nat):Int)≠0:=by omega
   rw [show (((octs.length % 3:Nat):Int) != 0)=true from by simpa using this]
   show EXs _ _ _ _ _ _
   repeat walk_at "st"
   exact Ends.mk [] rfl h
  ·rw [if_neg hc] at h
   have:((octs.length % 3:Nat):Int)=0:=by omega
   rw [this]
   show EXs _ _ _ _ _ _
   repeat walk_at "st"
   refine EV_DictGet_i ?_
   refine EVP_cons ?_
   repeat walk_at "st"
   refine IX_tD (by decide) (by rw [ha]; decide) (by rw [ha]; decide) ?_
   refine EVP_cons ?_
   repeat walk_at "st"
   refine IX_tD (by decide) (by rw [ha]; decide) (by rw [ha]; decide) ?_
   refine EVP_nil ?_
   refine ⟨[(62,tx [alts.getD 0 0]),(63,tx [alts.getD 1 0])],rfl,(by decide:([62,63]:List Int).Nodup),?_⟩
   repeat walk_at "st"
   refine IX_lLast (.int 0) (by simpa using h0) (by rw [List.length_map]; omega) ?_
   have el:(octs.map fun (k:Nat)=>PV.int (k:Int)).getD ((octs.map fun (k:Nat)=>PV.int (k:Int)).length - 1) (.int 0)=.int (octs.getD (octs.length - 1) 0:Nat):=by
    rw [List.length_map]
    have hne:octs.length≠0:=fun q=>h0 (List.eq_nil_of_length_eq_zero q)
    rw [List.getD_eq_getElem?_getD,List.getD_eq_getElem?_getD,List.getElem?_map,List.getElem?_eq_getElem (by omega)]; rfl
   rw [el]
   repeat walk_at "st"
   have e64:((octs.getD (octs.length - 1) 0:Nat):Int).fmod 64=((octs.getD (octs.length - 1) 0 % 64:Nat):Int):=fmodN _ 64
   rw [e64]
   refine ⟨_,rfl,?_⟩
   repeat walk_at "st"
   refine Ends.mk [] rfl ?_
   show P ((List.lookup _ _).getD _) _
   have ef:((List.lookup ((octs.getD (octs.length - 1) 0 % 64:Nat):Int) [(62,tx [alts.getD 0 0]),(63,tx [alts.getD 1 0])]).getD (tx []))=tx (((([(62,[alts.getD 0 0]),(63,[alts.getD 1 0])]:List (Nat × List Nat))).lookup (octs.getD (octs.length - 1) 0 % 64)).getD []):=by
    generalize octs.getD (octs.length - 1) 0 % 64=m
    by_cases h62:m=62
    ·subst h62; rfl
    ·by_cases h63:m=63
     ·subst h63; rfl
     ·have a1:(m == 62)=false:=by simpa using h62
      have a2:(m == 63)=false:=by simpa using h63
      have b1:((m:Int) == 62)=false:=by rw [beq_eq_false_iff_ne]; omega
      have b2:((m:Int) == 63)=false:=by rw [beq_eq_false_iff_ne]; omega
      simp only [List.lookup_cons,a1,a2,b1,b2,List.lookup_nil]; rfl
   rw [ef]
   exact h
end SL1small
section SL1oct
def placeOk (row:List Word) (sign:Nat) (alts:List Nat) (i:Nat):Bool:=decide (((row.getD (i + 1) ⟨[],[],[]⟩).gap.getD 0 0)=sign) || decide (lastOf (row.getD i ⟨[],[],[]⟩).octs alts=[sign])
def byOctets (row:List Word) (sign:Nat) (alts:List Nat):Nat:=match ((List.range (row.length - 1)).filter (placeOk row sign alts)).getLast? with | some i=>i + 1 | none=>0
structure RowOk (row:List Word):Prop where
 len:row.length≤50
 gap:∀ i w,row[i + 1]?=some w→w.gap≠[]
 gapL:∀ w∈row,w.gap.length≤5
 octs:∀ w∈row,w.octs≠[]∧w.octs.length≤8
 text:∀ w∈row,w.text≠[]∧w.text.length≤50
def rowPV (row:List Word):PV:=.lst (row.map Word.pv)
variable {g:Gl} {A:Around} {F:Fm} {σ:AS}
theorem row_get {row:List Word} {i:Nat} (h:i < row.length):(row.map Word.pv).getD i (.int 0)=(row.getD i ⟨[],[],[]⟩).pv:=by
 rw [List.getD_eq_getElem?_getD,List.getD_eq_getElem?_getD,List.getElem?_map,List.getElem?_eq_getElem h]; rfl
theorem row_mem {row:List Word} {i:Nat} (h:i < row.length):row.getD i ⟨[],[],[]⟩∈row:=by
 rw [List.getD_eq_getElem?_getD,List.getElem?_eq_getElem h]; exact List.getElem_mem h
section
variable {P:PV→AS→Prop} {value slice:Expr}
theorem IX_row {row:List Word} {i:Nat} (hi:i < row.length) (hz:row.length≤50) (h:P (row.getD i ⟨[],[],[]⟩).pv σ)
  (hs:∀ v u,subscripted slice false v u=operate [v,u] (getItem v u):=by intro _ _; with_unfolding_all rfl):IX g A F value slice (rowPV row) (.int (i:Int)) σ P :=
 IX_lD (.int 0) (by omega) (by rw [List.length_map]; omega) (by rw [List.length_map]; omega) (by rw [Int.toNat_natCast,row_get hi]; exact h) hs
theorem IX_word0 {w:Word} (h:P (tx w.gap) σ)
  (hs:∀ v u,subscripted slice false v u=operate [v,u] (getItem v u):=by intro _ _; with_unfolding_all rfl):IX g A F value slice w.pv (.int 0) σ P:=IX_tupD (.int 0) (by decide) (by show (0:Int) < 3; decide) (by exact Nat.le_of_ble_eq_true rfl) h hs
theorem IX_word1 {w:Word} (h:P (octL w.octs) σ)
  (hs:∀ v u,subscripted slice false v u=operate [v,u] (getItem v u):=by intro _ _; with_unfolding_all rfl):IX g A F value slice w.pv (.int 1) σ P:=IX_tupD (.int 0) (by decide) (by show (1:Int) < 3; decide) (by exact Nat.le_of_ble_eq_true rfl) h hs
theorem IX_word2 {w:Word} (h:P (tx w.text) σ)
  (hs:∀ v u,subscripted slice false v u=operate [v,u] (getItem v u):=by intro _ _; with_unfolding_all rfl):IX g A F value slice w.pv (.int 2) σ P:=IX_tupD (.int 0) (by decide) (by show (2:Int) < 3; decide) (by exact Nat.le_of_ble_eq_true rfl) h hs
end
theorem law_by_octets_spec {f fl:Addr} {row:List Word} {sign:Nat} {alts:List Nat} {P:PV→AS→Prop} (hr:Rm A 2) (hf:Fn g 32 "_law_by_octets" f) (hfl:Fn g 31 "_law_last" fl) (hlen:g.Blt "len" (.builtin "len")) (hrange:g.Blt "range" (.type "range"))
  (ok:RowOk row) (ha:alts.length=2) (h:P (.int (byOctets row sign alts:Nat)) σ):CL g A F (.ref f) [rowPV row,tx [sign],tx alts] σ P:=by
 obtain ⟨c,pm,hfa⟩:=hf.at_
 refine CL_fnC (n:=1) (xs:=["row","sign","alts"]) hr hfa rfl (by decide) rfl (fun vs hv=>?_) (by rfl) (by rfl) fun L=>?_
 ·match vs,hv with | [v,u,w],_=>rfl
 ·have hk:FnEnv (fnFmC (mkF 32 "_law_by_octets" c pm) L f):=fnEnv_mkFC rfl
  have hr1:=hr.deeper (env:=callEnvC (mkF 32 "_law_by_octets" c pm) L f)
  have hlenrow:=ok.len
  refine EXs_cons ?_
  refine EX_Assign_Comp (cl:=[("sign",L + 2),("row",L + 1),("alts",L + 3)]) (caps:=["row","sign","alts"]) hk ⟨rfl,rfl,rfl,rfl,fun x hx=>?_⟩ ?_
  ·simp only [List.mem_cons,List.not_mem_nil,or_false] at hx
   rcases hx with rfl | rfl | rfl <;> exact ⟨rfl,rfl,rfl⟩
  refine SRC_range (hr1.le (Nat.zero_le _)) ?_
  refine EV_builtin hk hrange ?_
  refine ⟨rfl,?_⟩
  repeat walk_at "st"
  refine EV_Call_flat ?_
  refine EV_builtin hk hlen ?_
  refine ⟨_,rfl,rfl,?_⟩
  repeat walk_at "st"
  refine CL_len_l (by rw [List.length_map]; omega) ?_
  repeat walk_at "st"
  rw [List.length_map]
  refine ⟨_,_,_,.two _ _,small_range2 (by omega),?_⟩
  rw [range2]
  intro D C
  refine CompP_filterL (fun (i:Nat)=>.int ((i + 1:Nat):Int)) (fun (i:Nat)=>.int ((i + 1:Nat):Int)) (placeOk row sign alts) ?_ (by simp; omega) ?_
  ·intro i hi acc
   have hib:=List.mem_range.mp hi
   refine AS1_name (fnEnv_cFm hk rfl) ?_
   have hw:=row_mem (row:=row) (i:=i) (by omega)
   have hw1:=row_mem (row:=row) (i:=i + 1) (by omega)
   have hgne:(row.getD (i + 1) ⟨[],[],[]⟩).gap≠[]:=ok.gap i _ (by rw [List.getD_eq_getElem?_getD,List.getElem?_eq_getElem (by omega)]; rfl)
   have hgl:=ok.gapL _ hw1
   have hgpos:(row.getD (i + 1) ⟨[],[],[]⟩).gap.length≠0:=fun q=>hgne (List.eq_nil_of_length_eq_zero q)
   refine TR_det (placeOk row sign alts i) ?_ ⟨rfl,?_⟩
   ·walk_at "st"
    refine TRs_cons ?_
    repeat walk_at "st"
    refine IX_row (by omega) ok.len ?_
    repeat walk_at "st"
    refine IX_word0 ?_
    repeat walk_at "st"
    refine IX_tD (by decide) (by omega) (by omega) ?_
    repeat walk_at "st"
    unfold placeOk
    by_cases h1:(row.getD (i + 1) ⟨[],[],[]⟩).gap.getD 0 0=sign
    ·have e1:decide ([(row.getD (i + 1) ⟨[],[],[]⟩).gap.getD (0:Int).toNat 0]=[sign])=true:=decide_eq_true (by rw [show (0:Int).toNat=0 from rfl,h1])
     rw [e1]
     rw [decide_eq_true h1]
     exact ⟨rfl,rfl⟩
    ·have e1:decide ([(row.getD (i + 1) ⟨[],[],[]⟩).gap.getD (0:Int).toNat 0]=[sign])=false:=decide_eq_false (fun q=>h1 (by simpa using q))
     rw [e1]
     rw [decide_eq_false h1]
     refine TRs_cons ?_
     refine TR_Compare ?_
     refine EV_Call_fn hfl.at_.choose_spec.choose_spec ?_
     refine EV_global (fnEnv_cFm hk rfl) hfl.glob ?_
     refine ⟨rfl,?_⟩
     repeat walk_at "st"
     rw [show ((i + 1:Nat):Int) - 1=(i:Int) by omega]
     refine IX_row (by omega) ok.len ?_
     repeat walk_at "st"
     refine IX_word1 ?_
     repeat walk_at "st"
     refine law_last_spec hr1 hfl hlen (ok.octs _ hw).2 (ok.octs _ hw).1 ha ?_
     repeat walk_at "st"
     by_cases h2:lastOf (row.getD i ⟨[],[],[]⟩).octs alts=[sign]
     ·rw [decide_eq_true h2]; exact ⟨rfl,rfl⟩
     ·rw [decide_eq_false h2]; exact TRs_nil ⟨rfl,rfl⟩
   ·cases placeOk row sign alts i with
    | false=>exact ⟨rfl,by walk_at "sub"⟩
    | true =>
     show EV _ _ _ _ _ _
     repeat walk_at "st"
     exact ⟨rfl,rfl,by walk_at "sub"⟩
  ·rw [List.nil_append]
   refine EXs_cons ?_
   repeat walk_at "st"
   unfold byOctets at h
   have hpl:((List.range (row.length - 1)).filter (placeOk row sign alts)).length≤50:=Nat.le_trans (List.length_filter_le _ _) (by rw [List.length_range]; omega)
   generalize (List.range (row.length - 1)).filter (placeOk row sign alts)=ps at h hpl ⊢
   refine TT_lst (by rw [List.length_map]; omega) ?_
   by_cases hps:ps=[]
   ·subst hps
    show EV _ _ _ _ _ _
    repeat walk_at "st"
    exact Ends.mk [] rfl h
   ·have hne:ps.length≠0:=fun q=>hps (List.eq_nil_of_length_eq_zero q)
    have e1:(!(ps.map fun (i:Nat)=>PV.int ((i + 1:Nat):Int)).isEmpty)=true:=by
     cases ps with
     | nil=>exact absurd rfl hps
     | cons a b=>rfl
    rw [e1,if_pos rfl]
    repeat walk_at "st"
    refine IX_lLast (.int 0) (by simpa using hps) (by rw [List.length_map]; omega) ?_
    refine Ends.mk [] rfl ?_
    rw [List.getLast?_eq_getElem?,List.getElem?_eq_getElem (by omega)] at h
    have e2:(ps.map fun (i:Nat)=>PV.int ((i + 1:Nat):Int)).getD ((ps.map fun (i:Nat)=>PV.int ((i + 1:Nat):Int)).length - 1) (.int 0)=.int ((ps[ps.length - 1] + 1:Nat):Int):=by
     rw [List.length_map,List.getD_eq_getElem?_getD,List.getElem?_map,List.getElem?_eq_getElem (by omega)]; rfl
    show P (List.getD _ _ _) _
    rw [e2]
    exact h
end SL1oct
section SL1pat
structure CSet where
 barred:Bool
 members:List Nat
def CSet.pv (s:CSet):PV:=.tup [.raw (.bool s.barred),tx s.members]
def CSet.fits (s:CSet) (c:Nat):Bool:=!(decide (c∈s.members) == s.barred)
def lineOf (row:List Word):List Nat:=(row.map fun w=>w.gap++w.text).flatten
def backOf (row:List Word):List Nat:=(lineOf row).reverse
def aheadGo:List Word→Int→Nat→Nat
 | [],_,i=>i
 | w :: r,a,i=>if a > 0 then aheadGo r (a - (w.gap.length + w.text.length:Nat)) (i + 1) else i
def fitsAt (row:List Word) (s0 s1:CSet) (i:Nat):Bool:=s0.fits ((backOf row).getD i 0) && s1.fits ((backOf row).getD (i + 1) 0)
def byPattern (row:List Word) (s0 s1:CSet):Nat:=match (List.range ((backOf row).length - 1)).find? (fitsAt row s0 s1) with | some at_=>aheadGo row ((backOf row).length - at_ - 1:Int) 0 | none=>0
theorem lineOf_len (row:List Word):(lineOf row).length=(row.map fun w=>w.gap.length + w.text.length).sum:=by
 unfold lineOf
 rw [List.length_flatten,List.map_map]
 congr 1
 exact List.map_congr_left fun w _=>List.length_append
theorem lineOf_le {row:List Word} (ok:RowOk row):(lineOf row).length≤55 * row.length:=by
 rw [lineOf_len]
 have:∀ l:List Word,(∀ w∈l,w∈row)→(l.map fun w=>w.gap.length + w.text.length).sum≤55 * l.length:=by
  intro l
  induction l with
  | nil=>intro _; simp
  | cons w r ih =>
   intro h
   have h1:=ok.gapL w (h w List.mem_cons_self)
   have h2:=(ok.text w (h w List.mem_cons_self)).2
   have h3:=ih fun x hx=>h x (List.mem_cons_of_mem _ hx)
   simp only [List.map_cons,List.sum_cons,List.length_cons]
   omega
 exact this row fun w h=>h
theorem lineOf_pos {row:List Word} (ok:RowOk row) (h:row≠[]):1≤(lineOf row).length:=by
 cases row with
 | nil=>exact absurd rfl h
 | cons w r =>
  rw [lineOf_len]
  have:=(ok.text w List.mem_cons_self).1
  have:w.text.length≠0:=fun q=>this (List.eq_nil_of_length_eq_zero q)
  simp only [List.map_cons,List.sum_cons]
  omega
variable {g:Gl} {A:Around} {F:Fm} {σ:AS}
section
variable {P:PV→AS→Prop} {value slice:Expr}
theorem IX_l0 {p:PV} {l:List PV} (hz:l.length≤1000) (h:P p σ)
  (hs:∀ v u,subscripted slice false v u=operate [v,u] (getItem v u):=by intro _ _; with_unfolding_all rfl):IX g A F value slice (.lst (p :: l)) (.int 0) σ P :=
 IX_lD (.int 0) (by decide) (by simp only [List.length_cons]; omega) (by simp only [List.length_cons]; omega) h hs
theorem IX_l1 {p q:PV} {l:List PV} (hz:l.length≤1000) (h:P q σ)
  (hs:∀ v u,subscripted slice false v u=operate [v,u] (getItem v u):=by intro _ _; with_unfolding_all rfl):IX g A F value slice (.lst (p :: q :: l)) (.int 1) σ P :=
 IX_lD (.int 0) (by decide) (by simp; omega) (by simp; omega) h hs
theorem IX_cset0 {c:CSet} (h:P (.raw (.bool c.barred)) σ)
  (hs:∀ v u,subscripted slice false v u=operate [v,u] (getItem v u):=by intro _ _; with_unfolding_all rfl):IX g A F value slice c.pv (.int 0) σ P:=IX_tupD (.int 0) (by decide) (by show (0:Int) < 2; decide) (by exact Nat.le_of_ble_eq_true rfl) h hs
theorem IX_cset1 {c:CSet} (h:P (tx c.members) σ)
  (hs:∀ v u,subscripted slice false v u=operate [v,u] (getItem v u):=by intro _ _; with_unfolding_all rfl):IX g A F value slice c.pv (.int 1) σ P:=IX_tupD (.int 0) (by decide) (by show (1:Int) < 2; decide) (by exact Nat.le_of_ble_eq_true rfl) h hs
end
theorem sum_drop {row:List Word} {i:Nat} (h:i < row.length):((row.drop i).map fun w=>w.gap.length + w.text.length).sum=((row.getD i ⟨[],[],[]⟩).gap.length + (row.getD i ⟨[],[],[]⟩).text.length) + ((row.drop (i + 1)).map fun w=>w.gap.length + w.text.length).sum:=by
 rw [List.drop_eq_getElem_cons h,List.map_cons,List.sum_cons,List.getD_eq_getElem?_getD,List.getElem?_eq_getElem h]; rfl
theorem aheadGo_drop {row:List Word} {i:Nat} {a:Int} (h:i < row.length) (ha:a > 0):aheadGo (row.drop i) a i=aheadGo (row.drop (i + 1)) (a - ((row.getD i ⟨[],[],[]⟩).gap.length + (row.getD i ⟨[],[],[]⟩).text.length:Nat)) (i + 1):=by
 rw [List.drop_eq_getElem_cons h]
 conv=>lhs; unfold aheadGo
 rw [if_pos ha,List.getD_eq_getElem?_getD,List.getElem?_eq_getElem h]; rfl
theorem aheadGo_done {l:List Word} {i:Nat} {a:Int} (ha:¬ a > 0):aheadGo l a i=i:=by
 cases l with
 | nil=>rfl
 | cons w r=>unfold aheadGo; rw [if_neg ha]
theorem law_by_pattern_spec {f:Addr} {row:List Word} {s0 s1:CSet} {P:PV→AS→Prop} (hr:Rm A 1) (hf:Fn g 33 "_law_by_pattern" f) (hlen:g.Blt "len" (.builtin "len")) (hrange:g.Blt "range" (.type "range"))
  (ok:RowOk row) (hne:row≠[]) (h:P (.int (byPattern row s0 s1:Nat)) σ):CL g A F (.ref f) [rowPV row,.lst [s0.pv,s1.pv]] σ P:=by
 obtain ⟨c,pm,hfa⟩:=hf.at_
 refine CL_fnE (n:=0) (xs:=["row","sets"]) hr hfa (by decide) rfl (fun vs hv=>?_) (by rfl) (by rfl) fun L=>?_
 ·match vs,hv with | [v,u],_=>rfl
 ·have hk:FnEnv (fnFm (mkF 33 "_law_by_pattern" c pm) L f):=fnEnv_mkF rfl
  have hr0:=hr.deeper (env:=callEnv (mkF 33 "_law_by_pattern" c pm) L f)
  have hlenrow:=ok.len
  have hle:=lineOf_le ok
  have hpos:=lineOf_pos ok hne
  have hbl:(backOf row).length=(lineOf row).length:=List.length_reverse
  refine EXs_cons ?_
  refine EX_Assign_Name hk ?_
  refine EV_RevSlice ?_
  refine EV_Meth ?_
  repeat walk_at "st"
  refine ⟨_,MT_join,?_⟩
  repeat walk_at "st"
  refine EV_ListComp (cl:=[]) (caps:=[]) ⟨rfl,rfl,rfl,rfl,fun x hx=>by simp at hx⟩ ?_
  refine SRC_of ?_
  repeat walk_at "st"
  refine ⟨_,IT_lst hr0,fun D C=>?_⟩
  refine CompP_mapL Word.pv (fun w=>tx (w.gap++w.text)) ?_ (by simp; omega) ?_
  ·intro w hw acc
   have h1:=ok.gapL w hw
   have h2:=(ok.text w hw).2
   refine AS1_tup hr0 rfl ?_
   repeat walk_at "asg"
   repeat walk_at "st"
   refine add_tt (by omega) ?_
   exact ⟨rfl,rfl,by walk_at "sub"⟩
  repeat walk_at "st"
  have hj:([]++row.map fun w=>tx (w.gap++w.text))=(row.map fun w=>w.gap++w.text).map tx:=by rw [List.nil_append,List.map_map]; rfl
  rw [hj]
  refine CL_join (by
   unfold JoinFit
   have:((row.map fun w=>w.gap++w.text).map (·.length)).sum=(lineOf row).length:=by rw [lineOf_len,List.map_map]; congr 1; exact List.map_congr_left fun w _=>List.length_append
   rw [this]; simp; omega) ?_
  rw [joinL_nil]
  refine ⟨lineOf row,rfl,by omega,?_⟩
  repeat walk_at "st"
  refine ⟨rfl,?_⟩
  show EXs _ _ _ _ _ _
  refine EXs_cons ?_
  refine EX_ForS ?_
  refine SRC_range hr0 ?_
  refine EV_builtin hk hrange ?_
  refine ⟨rfl,?_⟩
  repeat walk_at "st"
  refine EV_Call_flat ?_
  refine EV_builtin hk hlen ?_
  refine ⟨_,rfl,rfl,?_⟩
  repeat walk_at "st"
  refine CL_len_t (by rw [List.length_reverse]; omega) ?_
  repeat walk_at "st"
  refine ⟨_,_,_,.one _,?_,?_⟩
  ·rw [List.length_reverse]; exact small_range (by omega) (by omega)
  rw [range1 (k:=(backOf row).length - 1) (by rw [hbl,List.length_reverse]; omega)]
  refine ForP_ind (fun xs σ'=>∃ rest:List Nat,xs=rest.map (fun (i:Nat)=>.int (i:Int))∧(∀ i∈rest,i + 1 < (backOf row).length)∧σ'=⟨[("row",rowPV row),("sets",.lst [s0.pv,s1.pv]),("back",tx (backOf row))],σ.zone⟩∧rest.find? (fitsAt row s0 s1)=(List.range ((backOf row).length - 1)).find? (fitsAt row s0 s1)) ?_ ?_ _ _ ?_
  ·rintro _ ⟨rest,hx,hb,rfl,hfind⟩
   have hrest:rest=[]:=by cases rest with | nil=>rfl | cons a b=>cases hx
   subst hrest
   walk_at "st"
   refine EXs_cons ?_
   repeat walk_at "st"
   refine Ends.mk [] rfl ?_
   unfold byPattern at h
   rw [← hfind] at h
   exact h
  ·rintro x xs _ ⟨rest,hx,hb,rfl,hfind⟩
   cases rest with
   | nil=>cases hx
   | cons a rest =>
    cases hx
    have hab:=hb a List.mem_cons_self
    refine AS1_name hk ?_
    refine EXs_cons ?_
    refine EX_If ?_
    refine TR_det (fitsAt row s0 s1 a) ?_ ?_
    ·walk_at "st"
     refine TRs_cons ?_
     refine TR_Compare ?_
     repeat walk_at "st"
     refine IX_tD (by omega) (by omega) (by omega) ?_
     repeat walk_at "st"
     refine IX_l0 (by exact Nat.le_of_ble_eq_true rfl) ?_
     repeat walk_at "st"
     refine IX_cset1 ?_
     repeat walk_at "st"
     refine IX_l0 (by exact Nat.le_of_ble_eq_true rfl) ?_
     repeat walk_at "st"
     refine IX_cset0 ?_
     repeat walk_at "st"
     show match BoolOp.And,s0.fits ((backOf row).getD a 0) with | .And,false=>_ | .Or,true=>_ | _,_=>_
     unfold fitsAt
     cases hf0:s0.fits ((backOf row).getD a 0) with
     | false=>exact ⟨rfl,rfl⟩
     | true =>
      refine TRs_cons ?_
      refine TR_Compare ?_
      repeat walk_at "st"
      rw [show (a:Int) + 1=((a + 1:Nat):Int) by omega]
      refine IX_tD (by omega) (by omega) (by omega) ?_
      repeat walk_at "st"
      refine IX_l1 (by exact Nat.zero_le _) ?_
      repeat walk_at "st"
      refine IX_cset1 ?_
      repeat walk_at "st"
      refine IX_l1 (by exact Nat.zero_le _) ?_
      repeat walk_at "st"
      refine IX_cset0 ?_
      repeat walk_at "st"
      show match BoolOp.And,s1.fits ((backOf row).getD (a + 1) 0) with | .And,false=>_ | .Or,true=>_ | _,_=>_
      cases hf1:s1.fits ((backOf row).getD (a + 1) 0) with
      | false=>exact ⟨rfl,rfl⟩
      | true=>exact TRs_nil ⟨rfl,rfl⟩
    ·cases hfa:fitsAt row s0 s1 a with
     | false =>
      show EXs _ _ _ _ _ _
      repeat walk_at "st"
      refine ⟨_,Sub.weak' (loc':=[("row",rowPV row),("sets",.lst [s0.pv,s1.pv]),("back",tx (backOf row))]) (by walk_at "sub") rfl,fun _ h=>h,rest,rfl,fun i hi=>hb i (List.mem_cons_of_mem _ hi),rfl,?_⟩
      rw [← hfind,List.find?_cons,hfa]
     | true =>
      rw [List.find?_cons,hfa] at hfind
      have hby:byPattern row s0 s1=aheadGo row ((backOf row).length - a - 1:Int) 0:=by unfold byPattern; rw [← hfind]
      rw [hby] at h
      show EXs _ _ _ _ _ _
      refine EXs_cons ?_
      refine EX_Assign_swapped (names:=["ahead","i"]) hr0 ?_
      repeat walk_at "st"
      refine EV_Call_flat ?_
      refine EV_builtin hk hlen ?_
      refine ⟨_,rfl,rfl,?_⟩
      repeat walk_at "st"
      refine CL_len_t (by omega) ?_
      repeat walk_at "st"
      refine ⟨_,rfl,rfl,?_⟩
      repeat walk_at "asg"
      refine EXs_weak (σ':=⟨[("row",rowPV row),("sets",.lst [s0.pv,s1.pv]),("back",tx (backOf row)),("at",.int (a:Int)),("ahead",.int ((backOf row).length - a - 1:Int)),("i",.int ((0:Nat):Int))],σ.zone⟩) (Sub.weak' (by walk_at "sub") rfl) ?_
      refine EXs_cons ?_
      refine EX_While_ind (fun n σ'=>∃ (i:Nat) (b:Int),σ'=⟨[("row",rowPV row),("sets",.lst [s0.pv,s1.pv]),("back",tx (backOf row)),("at",.int (a:Int)),("ahead",.int b),("i",.int (i:Int))],σ.zone⟩∧n=row.length - i∧b≤((row.drop i).map fun w=>w.gap.length + w.text.length).sum∧aheadGo (row.drop i) b i=aheadGo row ((backOf row).length - a - 1:Int) 0) row.length ?_ ?_
      ·refine ⟨0,_,rfl,rfl,?_,rfl⟩
       rw [List.drop_zero,← lineOf_len]; omega
      ·rintro n _ ⟨i,b,rfl,rfl,hb',hgo⟩
       repeat walk_at "st"
       by_cases hpos':b > 0
       ·rw [decide_eq_true hpos']
        have hi:i < row.length:=by
         rcases Nat.lt_or_ge i row.length with q | q
         ·exact q
         ·rw [List.drop_of_length_le q] at hb'
          simp at hb'; omega
        have hw:=row_mem (row:=row) (i:=i) hi
        have hg:=ok.gapL _ hw
        have ht:=(ok.text _ hw).2
        show EXs _ _ _ _ _ _
        repeat walk_at "st"
        refine EV_Call_flat ?_
        refine EV_builtin hk hlen ?_
        refine ⟨_,rfl,rfl,?_⟩
        repeat walk_at "st"
        refine IX_row hi ok.len ?_
        repeat walk_at "st"
        refine IX_word0 ?_
        repeat walk_at "st"
        refine CL_len_t (by omega) ?_
        repeat walk_at "st"
        refine EV_Call_flat ?_
        refine EV_builtin hk hlen ?_
        refine ⟨_,rfl,rfl,?_⟩
        repeat walk_at "st"
        refine IX_row hi ok.len ?_
        repeat walk_at "st"
        refine IX_word2 ?_
        repeat walk_at "st"
        refine CL_len_t (by omega) ?_
        repeat walk_at "st"
        refine ⟨row.length - (i + 1),_,by omega,Weak.refl,i + 1,_,rfl,rfl,?_,?_⟩
        ·rw [sum_drop hi] at hb'
         omega
        ·rw [← hgo,aheadGo_drop hi hpos']
         congr 1
       ·rw [decide_eq_false hpos']
        show EXs _ _ _ _ _ _
        repeat walk_at "st"
        refine Ends.mk [] rfl ?_
        rw [← hgo,aheadGo_done hpos'] at h
        exact h
  ·refine ⟨List.range ((backOf row).length - 1),rfl,fun i hi=>?_,rfl,rfl⟩
   have:=List.mem_range.mp hi
   omega
end SL1pat
section SL1place
structure Rule where
 sign:Nat
 s0:CSet
 s1:CSet
def Rule.pv (r:Rule):PV:=.tup [tx [r.sign],.lst [r.s0.pv,r.s1.pv]]
def onePlace (row:List Word) (alts:List Nat) (turned:Bool) (r:Rule):Nat:=if turned then byPattern row r.s0 r.s1 else byOctets row r.sign alts
def placeOf (row:List Word) (rules:List Rule) (alts:List Nat) (turned:Bool):Nat:=((rules.map (onePlace row alts turned)).find? (fun i=>decide (0 < i))).getD 0
variable {g:Gl} {A:Around} {F:Fm} {σ:AS}
theorem law_place_spec {f fo fp fl:Addr} {row:List Word} {rules:List Rule} {alts:List Nat} {turned:Bool} {P:PV→AS→Prop} (hr:Rm A 3) (hf:Fn g 34 "_law_place" f) (hfo:Fn g 32 "_law_by_octets" fo) (hfp:Fn g 33 "_law_by_pattern" fp) (hfl:Fn g 31 "_law_last" fl)
  (hlen:g.Blt "len" (.builtin "len")) (hrange:g.Blt "range" (.type "range")) (ok:RowOk row) (hne:row≠[]) (ha:alts.length=2) (h:P (.int (placeOf row rules alts turned:Nat)) σ) :
  CL g A F (.ref f) [rowPV row,.lst (rules.map Rule.pv),tx alts,.raw (.bool turned)] σ P:=by
 obtain ⟨c,pm,hfa⟩:=hf.at_
 refine CL_fnE (n:=2) (xs:=["row","rules","alts","turned"]) hr hfa (by decide) rfl (fun vs hv=>?_) (by rfl) (by rfl) fun L=>?_
 ·match vs,hv with | [v,u,w,x],_=>rfl
 ·have hk:FnEnv (fnFm (mkF 34 "_law_place" c pm) L f):=fnEnv_mkF rfl
  have hr2:=hr.deeper (env:=callEnv (mkF 34 "_law_place" c pm) L f)
  have hr0:=hr2.le (Nat.zero_le _)
  refine EXs_cons ?_
  refine EX_For ?_
  repeat walk_at "st"
  refine ⟨_,IT_lst hr0,?_⟩
  refine ForP_ind (fun xs σ'=>∃ rest:List Rule,xs=rest.map Rule.pv∧σ'=⟨[("row",rowPV row),("rules",.lst (rules.map Rule.pv)),("alts",tx alts),("turned",.raw (.bool turned))],σ.zone⟩∧(rest.map (onePlace row alts turned)).find? (fun i=>decide (0 < i))=(rules.map (onePlace row alts turned)).find? (fun i=>decide (0 < i))) ?_ ?_ _ _ ⟨rules,rfl,rfl,rfl⟩
  ·rintro _ ⟨rest,hx,rfl,hfind⟩
   have hrest:rest=[]:=by cases rest with | nil=>rfl | cons a b=>cases hx
   subst hrest
   walk_at "st"
   refine EXs_cons ?_
   repeat walk_at "st"
   refine Ends.mk [] rfl ?_
   unfold placeOf at h
   rw [← hfind] at h
   exact h
  ·rintro x xs _ ⟨rest,hx,rfl,hfind⟩
   cases rest with
   | nil=>cases hx
   | cons r rest =>
    cases hx
    refine AS1_tup hr0 rfl ?_
    repeat walk_at "asg"
    refine EXs_cons ?_
    refine EX_Assign_Name hk ?_
    refine EV_det (.int (onePlace row alts turned r:Nat)) ?_ ?_
    ·repeat walk_at "st"
     cases turned with
     | true =>
      show EV _ _ _ _ _ _
      refine EV_Call_fn hfp.at_.choose_spec.choose_spec ?_
      refine EV_global hk hfp.glob ?_
      refine ⟨rfl,?_⟩
      repeat walk_at "st"
      refine law_by_pattern_spec (hr2.le (by decide)) hfp hlen hrange ok hne ?_
      exact ⟨rfl,rfl⟩
     | false =>
      show EV _ _ _ _ _ _
      refine EV_Call_fn hfo.at_.choose_spec.choose_spec ?_
      refine EV_global hk hfo.glob ?_
      refine ⟨rfl,?_⟩
      repeat walk_at "st"
      refine law_by_octets_spec (hr2.le (by decide)) hfo hfl hlen hrange ok ha ?_
      exact ⟨rfl,rfl⟩
    repeat walk_at "st"
    rw [List.map_cons,List.find?_cons] at hfind
    by_cases hpos:0 < onePlace row alts turned r
    ·rw [decide_eq_true hpos] at hfind
     have e:decide (((onePlace row alts turned r:Nat):Int) > 0)=true:=decide_eq_true (by omega)
     rw [e]
     show EXs _ _ _ _ _ _
     repeat walk_at "st"
     refine Ends.mk [] rfl ?_
     unfold placeOf at h
     rw [← hfind] at h
     exact h
    ·rw [decide_eq_false hpos] at hfind
     have e:decide (((onePlace row alts turned r:Nat):Int) > 0)=false:=decide_eq_false (by omega)
     rw [e]
     show EXs _ _ _ _ _ _
     repeat walk_at "st"
     exact ⟨_,Sub.weak' (loc':=[("row",rowPV row),("rules",.lst (rules.map Rule.pv)),("alts",tx alts),("turned",.raw (.bool turned))]) (by walk_at "sub") rfl,fun _ h=>h,rest,rfl,rfl,hfind⟩
end SL1place
section SL1rows
def Word.size (w:Word):Nat:=w.gap.length + (w.octs.length + 2) / 3 * 4
def sizeOf_ (row:List Word):Nat:=(row.map Word.size).sum
structure RowsSt where
 rows:List (List Word)
 row:List Word
 head:Nat
def Word.fix (w:Word):Word:=⟨if w.gap.isEmpty then [32] else w.gap,w.octs,w.text⟩
def rowStep (width:Int) (rules:List Rule) (alts:List Nat) (turned:Bool) (st:RowsSt) (w:Word):RowsSt :=
 let row:=st.row++[w]
 if (st.head + sizeOf_ row:Nat) > width then
  let i:=placeOf row rules alts turned
  if 0 < i then ⟨st.rows++[row.take i],row.drop i,0⟩
  else if 0 < st.head then ⟨st.rows++[row.dropLast],[w.fix],0⟩
  else ⟨st.rows,row,st.head⟩
 else ⟨st.rows,row,st.head⟩
def rowsOf (words:List Word) (width:Int) (name:Nat) (rules:List Rule) (alts:List Nat) (turned:Bool):List (List Nat) :=
 let st:=words.foldl (rowStep width rules alts turned) ⟨[],[],name⟩
 (st.rows++[st.row]).map lineOf
theorem sl_to {α:Type} (l:List α) (i:Nat):sl l none (some (i:Int))=l.take i:=by
 unfold sl slo shi
 simp only [Option.elim,List.drop_zero,Nat.sub_zero,clipAt_nat]
 rcases Nat.le_total i l.length with h | h
 ·rw [Nat.min_eq_left h]
 ·rw [Nat.min_eq_right h,List.take_of_length_le h,List.take_length]
theorem sl_from {α:Type} (l:List α) (i:Nat):sl l (some (i:Int)) none=l.drop i:=by
 unfold sl slo shi
 simp only [Option.elim,clipAt_nat]
 rcases Nat.le_total i l.length with h | h
 ·rw [Nat.min_eq_left h,List.take_of_length_le (by simp)]
 ·rw [Nat.min_eq_right h,List.drop_of_length_le (Nat.le_refl _),List.drop_of_length_le h]; simp
theorem sl_butlast {α:Type} (l:List α):sl l none (some (-1))=l.dropLast:=by
 unfold sl slo shi
 simp only [Option.elim,List.drop_zero,Nat.sub_zero]
 have:clipAt l.length (-1)=l.length - 1:=clipAt_neg l.length 1 (Nat.le_refl _)
 rw [this,List.dropLast_eq_take]
theorem RowOk.drop {l:List Word} (h:RowOk l) (i:Nat):RowOk (l.drop i) :=
 ⟨by have:=h.len; rw [List.length_drop]; omega,fun j w e=>h.gap (i + j) w (by rw [List.getElem?_drop] at e; rw [← e]; congr 1),fun w hw=>h.gapL w (List.mem_of_mem_drop hw),fun w hw=>h.octs w (List.mem_of_mem_drop hw),fun w hw=>h.text w (List.mem_of_mem_drop hw)⟩
theorem RowOk.left {l r:List Word} (h:RowOk (l++r)):RowOk l :=
 ⟨by have:=h.len; rw [List.length_append] at this; omega,fun j w e=>h.gap j w (by rw [List.getElem?_append_left (by rcases Nat.lt_or_ge (j + 1) l.length with q | q; exact q; rw [List.getElem?_eq_none q] at e; cases e)]; exact e),fun w hw=>h.gapL w (List.mem_append_left _ hw),fun w hw=>h.octs w (List.mem_append_left _ hw),fun w hw=>h.text w (List.mem_append_left _ hw)⟩
theorem RowOk.fixed {l r:List Word} {w:Word} (h:RowOk (l++(w :: r))):RowOk (w.fix :: r):=by
 have hm:∀ x∈w :: r,x∈l++(w :: r):=fun x hx=>List.mem_append_right _ hx
 have hd:RowOk (w :: r):=by have:=h.drop l.length; rwa [List.drop_left] at this
 refine ⟨hd.len,fun j x e=>hd.gap j x e,fun x hx=>?_,fun x hx=>?_,fun x hx=>?_⟩
 all_goals rcases List.mem_cons.mp hx with rfl | hx
 ·unfold Word.fix
  dsimp only
  split
  ·simp
  ·exact hd.gapL w List.mem_cons_self
 ·exact hd.gapL x (List.mem_cons_of_mem _ hx)
 ·exact hd.octs w List.mem_cons_self
 ·exact hd.octs x (List.mem_cons_of_mem _ hx)
 ·exact hd.text w List.mem_cons_self
 ·exact hd.text x (List.mem_cons_of_mem _ hx)
theorem size_sum (l:List Word):(l.map fun w=>((w.size:Nat):Int)).sum=((sizeOf_ l:Nat):Int):=by
 induction l with
 | nil=>rfl
 | cons w r ih=>simp only [sizeOf_,List.map_cons,List.sum_cons] at ih ⊢; rw [ih]; omega
variable {g:Gl} {A:Around} {F:Fm} {σ:AS}
set_option maxHeartbeats 4000000 in
theorem law_rows_spec {f fpl fo fp fl:Addr} {words:List Word} {width:Int} {name:Nat} {rules:List Rule} {alts:List Nat} {turned:Bool} {P:PV→AS→Prop} (hr:Rm A 4) (hf:Fn g 35 "_law_rows" f) (hfpl:Fn g 34 "_law_place" fpl) (hfo:Fn g 32 "_law_by_octets" fo) (hfp:Fn g 33 "_law_by_pattern" fp) (hfl:Fn g 31 "_law_last" fl)
  (hlen:g.Blt "len" (.builtin "len")) (hrange:g.Blt "range" (.type "range")) (hsum:g.Blt "sum" (.builtin "sum")) (ha:alts.length=2) (hw:RowOk words) (hn:words.length≤20) (h:P (.lst ((rowsOf words width name rules alts turned).map tx)) σ) :
  CL g A F (.ref f) [rowPV words,.int width,.int (name:Nat),.lst (rules.map Rule.pv),tx alts,.raw (.bool turned)] σ P:=by
 obtain ⟨c,pm,hfa⟩:=hf.at_
 refine CL_fnE (n:=3) (xs:=["words","width","name","rules","alts","turned"]) hr hfa (by decide) rfl (fun vs hv=>?_) (by rfl) (by rfl) fun L=>?_
 ·match vs,hv with | [v,u,w,x,y,z],_=>rfl
 ·have hk:FnEnv (fnFm (mkF 35 "_law_rows" c pm) L f):=fnEnv_mkF rfl
  have hr3:=hr.deeper (env:=callEnv (mkF 35 "_law_rows" c pm) L f)
  have hr0:=hr3.le (Nat.zero_le _)
  refine EXs_cons ?_
  refine EX_Assign_swapped (names:=["rows","row","head"]) hr0 ?_
  walk_at "st"
  walk_at "st"
  refine EV_List_new ?_
  walk_at "st"
  refine ⟨by decide,fun Dr=>?_⟩
  walk_at "st"
  refine EV_List_new ?_
  walk_at "st"
  refine ⟨by decide,fun D=>?_⟩
  repeat walk_at "st"
  refine ⟨_,rfl,rfl,?_⟩
  repeat walk_at "asg"
  refine EXs_cons ?_
  refine EX_For ?_
  repeat walk_at "st"
  refine ⟨_,IT_lst hr0,?_⟩
  refine ForP_ind (fun xs σ'=>∃ (st:RowsSt) (rest:List Word) (D:Addr),xs=rest.map Word.pv ∧
   σ'=⟨[("words",rowPV words),("width",.int width),("name",.int (name:Nat)),("rules",.lst (rules.map Rule.pv)),("alts",tx alts),("turned",.raw (.bool turned)),("head",.int (st.head:Nat)),("row",.raw (.ref D)),("rows",.raw (.ref Dr))],(D,.list (st.row.map Word.pv)) :: (Dr,.list (st.rows.map rowPV)) :: σ.zone⟩ ∧
   RowOk (st.row++rest)∧rest.foldl (rowStep width rules alts turned) st=words.foldl (rowStep width rules alts turned) ⟨[],[],name⟩∧st.rows.length + rest.length≤20∧∀ r∈st.rows,RowOk r) ?_ ?_ _ _ ⟨⟨[],[],name⟩,words,D,rfl,rfl,hw,rfl,by simpa using hn,fun r hr=>by simp at hr⟩
  ·rintro _ ⟨st,rest,D,hx,rfl,hok,hfold,hl,hall⟩
   have hrest:rest=[]:=by cases rest with | nil=>rfl | cons a b=>cases hx
   subst hrest
   walk_at "st"
   refine EXs_weak (Weak.freeze (pre:=[]) (x:="row") (by with_unfolding_all rfl)) ?_
   refine EXs_weak (Weak.freeze (pre:=[]) (x:="rows") (by with_unfolding_all rfl)) ?_
   refine EXs_cons ?_
   repeat walk_at "st"
   refine EV_ListComp (cl:=[]) (caps:=[]) ⟨rfl,rfl,rfl,rfl,fun x hx=>by simp at hx⟩ ?_
   refine SRC_of ?_
   repeat walk_at "st"
   refine EV_List ?_
   repeat walk_at "st"
   refine add_ll (by rw [List.length_map]; simp at hl ⊢; omega) ?_
   have hrr:st.rows.map rowPV++[PV.lst (st.row.map Word.pv)]=(st.rows++[st.row]).map rowPV:=by rw [List.map_append]; rfl
   rw [hrr]
   refine ⟨_,IT_lst hr0,fun D2 C=>?_⟩
   have hf0:words.foldl (rowStep width rules alts turned) ⟨[],[],name⟩=st:=hfold.symm
   refine CompP_mapL rowPV (fun r=>tx (lineOf r)) ?_ (by simp at hl ⊢; omega) ?_
   ·intro r hr' acc
    have hrok:RowOk r:=by
     rcases List.mem_append.mp hr' with q | q
     ·exact hall r q
     ·rw [List.mem_singleton] at q; subst q
      exact RowOk.left (r:=[]) hok
    have hle:=lineOf_le hrok
    have hrl:=hrok.len
    refine AS1_name (fnEnv_cFm hk rfl) ?_
    refine EV_Meth ?_
    repeat walk_at "st"
    refine ⟨_,MT_join,?_⟩
    walk_at "st"
    refine EV_ListComp (cl:=[]) (caps:=[]) ⟨rfl,rfl,rfl,rfl,fun x hx=>by simp at hx⟩ ?_
    refine SRC_of ?_
    repeat walk_at "st"
    refine ⟨_,IT_lst hr0,fun D2 C=>?_⟩
    refine CompP_mapL Word.pv (fun w=>tx (w.gap++w.text)) ?_ (by simp; omega) ?_
    ·intro w hw acc
     have h1:=hrok.gapL w hw
     have h2:=(hrok.text w hw).2
     refine AS1_tup hr0 rfl ?_
     repeat walk_at "asg"
     repeat walk_at "st"
     refine add_tt (by omega) ?_
     exact ⟨rfl,rfl,by walk_at "sub"⟩
    repeat walk_at "st"
    have hj:([]++r.map fun w=>tx (w.gap++w.text))=(r.map fun w=>w.gap++w.text).map tx:=by rw [List.nil_append,List.map_map]; rfl
    rw [hj]
    refine CL_join (by
     unfold JoinFit
     have:((r.map fun w=>w.gap++w.text).map (·.length)).sum=(lineOf r).length:=by rw [lineOf_len,List.map_map]; congr 1; exact List.map_congr_left fun w _=>List.length_append
     rw [this]; simp; omega) ?_
    rw [joinL_nil]
    exact ⟨rfl,rfl,by walk_at "sub"⟩
   refine Ends.mk [] rfl ?_
   have he:([]++(st.rows++[st.row]).map fun r=>tx (lineOf r))=(rowsOf words width name rules alts turned).map tx:=by
    rw [List.nil_append]
    unfold rowsOf
    rw [hf0,List.map_map]; rfl
   show P (.lst _) _
   rw [he]
   exact h
  ·rintro x xs _ ⟨st,rest,D,hx,rfl,hok,hfold,hl,hall⟩
   cases rest with
   | nil=>cases hx
   | cons w rest =>
    cases hx
    have hok1:RowOk (st.row++[w]):=RowOk.left (r:=rest) (by rw [List.append_assoc]; exact hok)
    have hlen1:=hok1.len
    refine AS1_name hk ?_
    refine EXs_cons ?_
    walk_at "st"
    refine EV_append ?_
    repeat walk_at "st"
    refine ⟨D,_,rfl,List.mem_cons_self,?_⟩
    repeat walk_at "st"
    refine ⟨_,_,.head,by rw [List.length_map]; rw [List.length_append] at hlen1; omega,?_⟩
    have hmap:st.row.map Word.pv++[w.pv]=(st.row++[w]).map Word.pv:=by rw [List.map_append]; rfl
    rw [hmap]
    repeat walk_at "st"
    refine EV_borrow [("row",rowPV (st.row++[w]))] (.lend (by with_unfolding_all rfl) List.mem_cons_self .nil) ?_
    refine EV_Call_flat ?_
    refine EV_builtin hk hsum ?_
    refine ⟨_,rfl,rfl,?_⟩
    walk_at "st"
    refine EV_ListComp (cl:=[]) (caps:=[]) ⟨rfl,rfl,rfl,rfl,fun x hx=>by simp at hx⟩ ?_
    refine SRC_of ?_
    repeat walk_at "st"
    refine ⟨_,IT_lst hr0,fun D2 C=>?_⟩
    refine CompP_mapL Word.pv (fun w=>.int ((w.size:Nat):Int)) ?_ (by simp at hlen1 ⊢; omega) ?_
    ·intro w' hw' acc
     have h1:=hok1.gapL w' hw'
     have h2:=(hok1.octs w' hw').2
     refine AS1_tup hr0 rfl ?_
     repeat walk_at "asg"
     repeat walk_at "st"
     refine EV_Call_flat ?_
     refine EV_builtin (fnEnv_cFm hk rfl) hlen ?_
     refine ⟨_,rfl,rfl,?_⟩
     repeat walk_at "st"
     refine CL_len_t (by omega) ?_
     repeat walk_at "st"
     refine EV_Call_flat ?_
     refine EV_builtin (fnEnv_cFm hk rfl) hlen ?_
     refine ⟨_,rfl,rfl,?_⟩
     repeat walk_at "st"
     refine CL_len_l (by rw [List.length_map]; omega) ?_
     rw [List.length_map]
     repeat walk_at "st"
     have e3:((w'.octs.length:Int) + 2).fdiv 3=(((w'.octs.length + 2) / 3:Nat):Int):=fdivN (w'.octs.length + 2) 3
     rw [e3]
     refine mul_ii (mulOk_right (by decide)) ?_
     repeat walk_at "st"
     refine ⟨?_,rfl,by walk_at "sub"⟩
     unfold Word.size
     congr 1
    repeat walk_at "st"
    have hs1:([]++(st.row++[w]).map fun w=>PV.int ((w.size:Nat):Int))=((st.row++[w]).map fun w=>((w.size:Nat):Int)).map .int:=by rw [List.nil_append,List.map_map]; rfl
    rw [hs1]
    refine CL_sum_l hr0 ?_
    rw [size_sum]
    refine ⟨trivial,?_⟩
    repeat walk_at "st"
    have hgt:decide (((st.head:Nat):Int) + ((sizeOf_ (st.row++[w]):Nat):Int) > width)=decide (((st.head + sizeOf_ (st.row++[w]):Nat):Int) > width):=by congr 1
    rw [hgt]
    have hstep:rowStep width rules alts turned st w=(if ((st.head + sizeOf_ (st.row++[w]):Nat):Int) > width then
      (if 0 < placeOf (st.row++[w]) rules alts turned then ⟨st.rows++[(st.row++[w]).take (placeOf (st.row++[w]) rules alts turned)],(st.row++[w]).drop (placeOf (st.row++[w]) rules alts turned),0⟩
      else if 0 < st.head then ⟨st.rows++[(st.row++[w]).dropLast],[w.fix],0⟩ else ⟨st.rows,st.row++[w],st.head⟩) else ⟨st.rows,st.row++[w],st.head⟩):=rfl
    rw [List.foldl_cons,hstep] at hfold
    rw [List.length_cons] at hl
    have hok':RowOk ((st.row++[w])++rest):=by rw [List.append_assoc]; exact hok
    by_cases hc:((st.head + sizeOf_ (st.row++[w]):Nat):Int) > width
    ·rw [decide_eq_true hc]
     rw [if_pos hc] at hfold
     show EXs _ _ _ _ _ _
     refine EXs_cons ?_
     refine EX_Assign_Name hk ?_
     refine EV_borrow [("row",rowPV (st.row++[w])),("rules",.lst (rules.map Rule.pv)),("alts",tx alts),("turned",.raw (.bool turned))] (.lend (by with_unfolding_all rfl) List.mem_cons_self (.same (by with_unfolding_all rfl) (.same (by with_unfolding_all rfl) (.same (by with_unfolding_all rfl) .nil)))) ?_
     refine EV_Call_fn hfpl.at_.choose_spec.choose_spec ?_
     refine EV_global hk hfpl.glob ?_
     refine ⟨rfl,?_⟩
     repeat walk_at "st"
     refine law_place_spec hr3 hfpl hfo hfp hfl hlen hrange hok1 (by simp) ha ?_
     refine ⟨trivial,?_⟩
     refine EXs_cons ?_
     repeat walk_at "st"
     generalize placeOf (st.row++[w]) rules alts turned=i at hfold ⊢
     by_cases hi:0 < i
     ·have e:decide ((i:Int) > 0)=true:=decide_eq_true (by omega)
      rw [e]
      rw [if_pos hi] at hfold
      show EXs _ _ _ _ _ _
      refine EXs_cons ?_
      walk_at "st"
      refine EV_append ?_
      repeat walk_at "st"
      refine ⟨Dr,_,rfl,List.mem_cons_of_mem _ List.mem_cons_self,?_⟩
      repeat walk_at "st"
      refine ⟨_,rfl,?_⟩
      refine SLC_z List.mem_cons_self (by rw [List.length_map]; omega) ?_
      rw [sl_to,← List.map_take]
      refine ⟨_,_,.tail .head,by rw [List.length_map]; omega,?_⟩
      have hmr:st.rows.map rowPV++[PV.lst (((st.row++[w]).take i).map Word.pv)]=(st.rows++[(st.row++[w]).take i]).map rowPV:=by rw [List.map_append]; rfl
      rw [hmr]
      walk_at "st"
      refine EXs_cons ?_
      refine EX_Assign_swapped (names:=["row","head"]) hr0 ?_
      repeat walk_at "st"
      refine ⟨_,rfl,?_⟩
      walk_at "st"
      refine SLC_z_new List.mem_cons_self (by rw [List.length_map]; omega) fun D3=>?_
      rw [sl_from,← List.map_drop]
      repeat walk_at "st"
      refine ⟨_,rfl,rfl,?_⟩
      repeat walk_at "asg"
      repeat walk_at "st"
      refine ⟨_,Weak.trans (Sub.weak' (loc':=[("words",rowPV words),("width",.int width),("name",.int (name:Nat)),("rules",.lst (rules.map Rule.pv)),("alts",tx alts),("turned",.raw (.bool turned)),("head",.int ((0:Nat):Int)),("row",.raw (.ref D3)),("rows",.raw (.ref Dr))]) (by walk_at "sub") rfl) (Weak.drop (pre:=[(D3,_)]) (z:=(D,_))),?_,⟨st.rows++[(st.row++[w]).take i],(st.row++[w]).drop i,0⟩,rest,D3,rfl,rfl,?_,hfold,?_,?_⟩
      ·exact own_sub (pre:=[(D3,_)]) (z:=(D,_))
      ·have:=hok'.drop i
       have hrow:RowOk ((st.row++[w]).drop i++rest):=by
        rcases Nat.le_total i (st.row++[w]).length with q | q
        ·rwa [List.drop_append_of_le_length q] at this
        ·rw [List.drop_of_length_le q,List.nil_append]
         have:=hok'.drop (st.row++[w]).length
         rwa [List.drop_left] at this
       exact hrow
      ·show (st.rows++[(st.row++[w]).take i]).length + rest.length≤20
       rw [List.length_append]; simp; omega
      ·intro r hr'
       rcases List.mem_append.mp hr' with q | q
       ·exact hall r q
       ·rw [List.mem_singleton] at q; subst q
        exact RowOk.left (r:=(st.row++[w]).drop i) (by rw [List.take_append_drop]; exact hok1)
     ·have e:decide ((i:Int) > 0)=false:=decide_eq_false (by omega)
      rw [e]
      rw [if_neg hi] at hfold
      show EXs _ _ _ _ _ _
      repeat walk_at "st"
      by_cases hh:0 < st.head
      ·have e:decide ((st.head:Int) > 0)=true:=decide_eq_true (by omega)
       rw [e]
       rw [if_pos hh] at hfold
       show EXs _ _ _ _ _ _
       refine EXs_cons ?_
       walk_at "st"
       refine EV_append ?_
       repeat walk_at "st"
       refine ⟨Dr,_,rfl,List.mem_cons_of_mem _ List.mem_cons_self,?_⟩
       repeat walk_at "st"
       refine ⟨_,rfl,?_⟩
       refine SLC_z List.mem_cons_self (by rw [List.length_map]; omega) ?_
       rw [sl_butlast,← List.map_dropLast]
       refine ⟨_,_,.tail .head,by rw [List.length_map]; omega,?_⟩
       have hmr:st.rows.map rowPV++[PV.lst ((st.row++[w]).dropLast.map Word.pv)]=(st.rows++[(st.row++[w]).dropLast]).map rowPV:=by rw [List.map_append]; rfl
       rw [hmr]
       walk_at "st"
       refine EXs_cons ?_
       refine EX_Assign_swapped (names:=["row","head"]) hr0 ?_
       walk_at "st"
       walk_at "st"
       refine EV_List_new ?_
       walk_at "st"
       walk_at "st"
       walk_at "st"
       refine EV_det (tx w.fix.gap) ?_ ?_
       ·refine EV_Or ?_
        repeat walk_at "st"
        refine IX_word0 ?_
        refine TT_str (by have:=hok1.gapL w (by simp); omega) ?_
        unfold Word.fix
        cases hg:w.gap with
        | nil =>
         show EV _ _ _ _ _ _
         repeat walk_at "st"
         exact ⟨rfl,rfl⟩
        | cons a b=>exact ⟨rfl,rfl⟩
       repeat walk_at "st"
       refine IX_word1 ?_
       repeat walk_at "st"
       refine IX_word2 ?_
       repeat walk_at "st"
       intro D3
       repeat walk_at "st"
       refine ⟨_,rfl,rfl,?_⟩
       repeat walk_at "asg"
       repeat walk_at "st"
       refine ⟨_,Weak.trans (Sub.weak' (loc':=[("words",rowPV words),("width",.int width),("name",.int (name:Nat)),("rules",.lst (rules.map Rule.pv)),("alts",tx alts),("turned",.raw (.bool turned)),("head",.int ((0:Nat):Int)),("row",.raw (.ref D3)),("rows",.raw (.ref Dr))]) (by walk_at "sub") rfl) (Weak.drop (pre:=[(D3,_)]) (z:=(D,_))),?_,⟨st.rows++[(st.row++[w]).dropLast],[w.fix],0⟩,rest,D3,rfl,rfl,?_,hfold,?_,?_⟩
       ·exact own_sub (pre:=[(D3,_)]) (z:=(D,_))
       ·exact RowOk.fixed (l:=st.row) hok
       ·show (st.rows++[(st.row++[w]).dropLast]).length + rest.length≤20
        rw [List.length_append]; simp; omega
       ·intro r hr'
        rcases List.mem_append.mp hr' with q | q
        ·exact hall r q
        ·rw [List.mem_singleton] at q; subst q
         rw [List.dropLast_eq_take]
         exact RowOk.left (r:=(st.row++[w]).drop ((st.row++[w]).length - 1)) (by rw [List.take_append_drop]; exact hok1)
      ·have e:decide ((st.head:Int) > 0)=false:=decide_eq_false (by omega)
       rw [e]
       rw [if_neg hh] at hfold
       show EXs _ _ _ _ _ _
       repeat walk_at "st"
       exact ⟨_,Sub.weak' (loc':=[("words",rowPV words),("width",.int width),("name",.int (name:Nat)),("rules",.lst (rules.map Rule.pv)),("alts",tx alts),("turned",.raw (.bool turned)),("head",.int (st.head:Nat)),("row",.raw (.ref D)),("rows",.raw (.ref Dr))]) (by walk_at "sub") rfl,fun _ h=>h,⟨st.rows,st.row++[w],st.head⟩,rest,D,rfl,rfl,hok',hfold,by show st.rows.length + rest.length≤20; omega,hall⟩
    ·rw [decide_eq_false hc]
     rw [if_neg hc] at hfold
     show EXs _ _ _ _ _ _
     repeat walk_at "st"
     exact ⟨_,Sub.weak' (loc':=[("words",rowPV words),("width",.int width),("name",.int (name:Nat)),("rules",.lst (rules.map Rule.pv)),("alts",tx alts),("turned",.raw (.bool turned)),("head",.int (st.head:Nat)),("row",.raw (.ref D)),("rows",.raw (.ref Dr))]) (by walk_at "sub") rfl,fun _ h=>h,⟨st.rows,st.row++[w],st.head⟩,rest,D,rfl,rfl,hok',hfold,by show st.rows.length + rest.length≤20; omega,hall⟩
end SL1rows
section SL1sets
def memRun (inner:List Nat):Nat→Nat→List Nat→Option (Nat × List Nat)
 | 0,_,_=>none
 | n + 1,i,m=>match inner[i]? with
  | none=>none
  | some c=>if c=93 then some (i,m) else match inner[if c=92 then i + 1 else i]? with
   | none=>none
   | some d=>memRun inner n ((if c=92 then i + 1 else i) + 1) (m++[d])
def setsRun (inner:List Nat):Nat→Nat→List CSet→Option (List CSet)
 | 0,_,_=>none
 | n + 1,i,sets=>if i < inner.length then match inner[i]? with
   | none=>none
   | some c=>if c=91 then match inner[i + 1]? with
     | none=>none
     | some b=>match memRun inner n (if b=94 then i + 1 + 1 else i + 1) [] with
      | none=>none
      | some (k,m)=>setsRun inner n (k + 1) (sets++[⟨decide (b=94),m⟩])
    else match inner[if c=92 then i + 1 else i]? with
     | none=>none
     | some d=>setsRun inner n ((if c=92 then i + 1 else i) + 1) (sets++[⟨false,[d]⟩])
  else some sets
variable {g:Gl} {A:Around} {F:Fm} {σ:AS}
theorem IX_tAt {P:PV→AS→Prop} {value slice:Expr} {l:List Nat} {i c:Nat} (hc:l[i]?=some c) (hz:l.length≤16777216) (h:P (tx [c]) σ)
  (hs:∀ v u,subscripted slice false v u=operate [v,u] (getItem v u):=by intro _ _; with_unfolding_all rfl):IX g A F value slice (tx l) (.int (i:Int)) σ P:=by
 have hi:i < l.length:=by
  rcases Nat.lt_or_ge i l.length with q | q
  ·exact q
  ·rw [List.getElem?_eq_none q] at hc; cases hc
 exact IX_t (by rw [idx_ok (by omega) (by omega),Int.toNat_natCast]) hc hz h hs
set_option maxHeartbeats 4000000 in
theorem law_sets_spec {f:Addr} {rx inner:List Nat} {sets:List CSet} {P:PV→AS→Prop} (hr:Rm A 1) (hf:Fn g 30 "_law_sets" f) (hlen:g.Blt "len" (.builtin "len"))
  (hs:startsL rx headL=true) (he:endsL rx tailL=true) (hsl:sl rx (some 10) (some (-6))=inner) (hrun:setsRun inner 50 0 []=some sets) (hz:rx.length≤100)
  (h:P (.lst (sets.map CSet.pv)) σ):CL g A F (.ref f) [tx rx] σ P:=by
 obtain ⟨c,pm,hfa⟩:=hf.at_
 refine CL_fnE (n:=0) (xs:=["regex"]) hr hfa (by decide) rfl (fun vs hv=>?_) (by rfl) (by rfl) fun L=>?_
 ·match vs,hv with | [v],_=>rfl
 ·have hk:FnEnv (fnFm (mkF 30 "_law_sets" c pm) L f):=fnEnv_mkF rfl
  have hr0:=hr.deeper (env:=callEnv (mkF 30 "_law_sets" c pm) L f)
  have hin:inner.length≤100:=by have:=sl_length_le rx (some 10) (some (-6)); rw [hsl] at this; omega
  refine EXs_cons ?_
  refine EX_Assign_Tuple hr0 ?_
  repeat walk_at "st"
  refine ⟨_,rfl,rfl,?_⟩
  repeat walk_at "asg"
  refine EXs_cons ?_
  refine EX_If ?_
  refine TR_det false ?_ ?_
  ·walk_at "st"
   refine TRs_cons ?_
   refine TR_Not ?_
   refine TR_plain ?_
   refine EV_Meth ?_
   repeat walk_at "st"
   refine ⟨_,MT_of PySem.F.slot_str_startswith PySem.F.type_str_startswith,?_⟩
   repeat walk_at "st"
   refine CL_starts ?_
   rw [show startsL rx _=true from hs]
   walk_at "st"
   refine TRs_cons ?_
   refine TR_Not ?_
   refine TR_plain ?_
   refine EV_Meth ?_
   repeat walk_at "st"
   refine ⟨_,MT_of PySem.F.slot_str_endswith PySem.F.type_str_endswith,?_⟩
   repeat walk_at "st"
   refine CL_ends ?_
   rw [show endsL rx _=true from he]
   walk_at "st"
   exact TRs_nil ⟨rfl,rfl⟩
  show EXs _ _ _ _ _ _
  walk_at "st"
  refine EXs_cons ?_
  repeat walk_at "st"
  refine EV_Call_flat ?_
  refine EV_builtin hk hlen ?_
  refine ⟨_,rfl,rfl,?_⟩
  repeat walk_at "st"
  refine CL_len_t (by decide) ?_
  refine ⟨_,rfl,?_⟩
  repeat walk_at "st"
  refine EV_Call_flat ?_
  refine EV_builtin hk hlen ?_
  refine ⟨_,rfl,rfl,?_⟩
  repeat walk_at "st"
  refine CL_len_t (by decide) ?_
  repeat walk_at "st"
  refine ⟨_,rfl,?_⟩
  refine SLC_t (by omega) ?_
  rw [show sl rx (some ((headL.length:Nat):Int)) (some (-((tailL.length:Nat):Int)))=inner from hsl]
  refine EXs_cons ?_
  refine EX_Assign_swapped (names:=["sets","at"]) hr0 ?_
  walk_at "st"
  walk_at "st"
  refine EV_List_new ?_
  walk_at "st"
  refine ⟨by decide,fun D=>?_⟩
  repeat walk_at "st"
  refine ⟨_,rfl,rfl,?_⟩
  repeat walk_at "asg"
  refine EXs_weak (σ':=⟨[("regex",tx rx),("head",tx headL),("tail",tx tailL),("inner",tx inner),("at",.int ((0:Nat):Int)),("sets",.raw (.ref D))],(D,.list []) :: σ.zone⟩) (Sub.weak' (by walk_at "sub") rfl) ?_
  refine EXs_cons ?_
  refine EX_While_ind (fun n σ'=>∃ (i:Nat) (done:List CSet),σ'=⟨[("regex",tx rx),("head",tx headL),("tail",tx tailL),("inner",tx inner),("at",.int (i:Int)),("sets",.raw (.ref D))],(D,.list (done.map CSet.pv)) :: σ.zone⟩∧setsRun inner n i done=some sets∧done.length + n≤50) 50 ⟨0,[],rfl,hrun,by decide⟩ ?_
  rintro n _ ⟨i,done,rfl,hgo,hdl⟩
  cases n with
  | zero=>cases hgo
  | succ n =>
   unfold setsRun at hgo
   repeat walk_at "st"
   refine EV_Call_flat ?_
   refine EV_builtin hk hlen ?_
   refine ⟨_,rfl,rfl,?_⟩
   repeat walk_at "st"
   refine CL_len_t (by omega) ?_
   repeat walk_at "st"
   by_cases hi:i < inner.length
   ·rw [if_pos hi] at hgo
    have e:decide ((i:Int) < (inner.length:Nat))=true:=decide_eq_true (by omega)
    rw [e]
    show EXs _ _ _ _ _ _
    cases hc:inner[i]? with
    | none=>rw [hc] at hgo; cases hgo
    | some ch =>
     rw [hc] at hgo
     dsimp only at hgo
     refine EXs_cons ?_
     refine EX_Assign_Tuple hr0 ?_
     repeat walk_at "st"
     refine ⟨_,rfl,rfl,?_⟩
     repeat walk_at "asg"
     refine EXs_cons ?_
     repeat walk_at "st"
     refine IX_tAt hc (by omega) ?_
     repeat walk_at "st"
     by_cases h91:ch=91
     ·rw [if_pos h91] at hgo
      have e:decide ([ch]=[91])=true:=decide_eq_true (by rw [h91])
      rw [e]
      show EXs _ _ _ _ _ _
      cases hb:inner[i + 1]? with
      | none=>rw [hb] at hgo; cases hgo
      | some b =>
       rw [hb] at hgo
       dsimp only at hgo
       repeat walk_at "st"
       rw [show (i:Int) + 1=((i + 1:Nat):Int) by omega]
       refine IX_tAt hb (by omega) ?_
       walk_at "st"
       walk_at "st"
       have hbar:decide ([b]=[94])=decide (b=94):=by by_cases q:b=94 <;> simp [q]
       rw [hbar]
       refine EXs_cons ?_
       refine EX_Aug_Name hk (by with_unfolding_all rfl) ?_
       refine EV_det (.int (if b=94 then 1 else 0)) ?_ ?_
       ·repeat walk_at "st"
        by_cases h94:b=94
        ·rw [decide_eq_true h94,if_pos h94]
         show EV _ _ _ _ _ _
         repeat walk_at "st"
         exact ⟨rfl,rfl⟩
        ·rw [decide_eq_false h94,if_neg h94]
         show EV _ _ _ _ _ _
         repeat walk_at "st"
         exact ⟨rfl,rfl⟩
       repeat walk_at "st"
       have e2:((i + 1:Nat):Int) + (if b=94 then 1 else 0)=((if b=94 then i + 1 + 1 else i + 1:Nat):Int):=by split <;> omega
       rw [e2]
       generalize hj:(if b=94 then i + 1 + 1 else i + 1)=j at hgo ⊢
       generalize decide (b=94)=bar at hgo ⊢
       cases hm:memRun inner n j [] with
       | none=>rw [hm] at hgo; cases hgo
       | some km =>
        obtain ⟨k,mm⟩:=km
        rw [hm] at hgo
        dsimp only at hgo
        refine J.weak (σ':=⟨[("regex",tx rx),("head",tx headL),("tail",tx tailL),("inner",tx inner),("at",.int ((j:Nat):Int)),("sets",.raw (.ref D)),("barred",.raw (.bool bar)),("members",tx [])],(D,.list (done.map CSet.pv)) :: σ.zone⟩) (Sub.weak' (by walk_at "sub") rfl) ?_
        refine EX_While_ind (fun n' σ'=>∃ (a:Nat) (m:List Nat),σ'=⟨[("regex",tx rx),("head",tx headL),("tail",tx tailL),("inner",tx inner),("at",.int ((a:Nat):Int)),("sets",.raw (.ref D)),("barred",.raw (.bool bar)),("members",tx m)],(D,.list (done.map CSet.pv)) :: σ.zone⟩∧memRun inner n' a m=some (k,mm)∧m.length + n'≤60) n ⟨j,[],rfl,hm,by simp; omega⟩ ?_
        rintro n' _ ⟨a,m,rfl,hgm,hml⟩
        cases n' with
        | zero=>cases hgm
        | succ n' =>
         unfold memRun at hgm
         cases hca:inner[a]? with
         | none=>rw [hca] at hgm; cases hgm
         | some ca =>
          rw [hca] at hgm
          dsimp only at hgm
          repeat walk_at "st"
          refine IX_tAt hca (by omega) ?_
          repeat walk_at "st"
          by_cases h93:ca=93
          ·rw [if_pos h93] at hgm
           have e:(!decide ([ca]=[93]))=false:=by rw [h93]; rfl
           rw [e]
           have hkm:k=a∧mm=m:=by
            have:=Option.some.inj hgm
            exact ⟨(Prod.mk.inj this).1.symm,(Prod.mk.inj this).2.symm⟩
           rw [hkm.1,hkm.2] at hgo
           show EXs _ _ _ _ _ _
           repeat walk_at "st"
           refine EV_append ?_
           repeat walk_at "st"
           refine ⟨D,_,rfl,List.mem_cons_self,?_⟩
           repeat walk_at "st"
           refine ⟨_,_,.head,by rw [List.length_map]; omega,?_⟩
           repeat walk_at "st"
           refine ⟨n,_,by omega,Sub.weak' (loc':=[("regex",tx rx),("head",tx headL),("tail",tx tailL),("inner",tx inner),("at",.int ((a + 1:Nat):Int)),("sets",.raw (.ref D))]) (by walk_at "sub") rfl,a + 1,done++[⟨bar,m⟩],?_,hgo,by rw [List.length_append]; simp; omega⟩
           rw [List.map_append]; rfl
          ·rw [if_neg h93] at hgm
           have e:(!decide ([ca]=[93]))=true:=by simp [h93]
           rw [e]
           show EXs _ _ _ _ _ _
           refine EXs_cons ?_
           refine EX_Aug_Name hk (by with_unfolding_all rfl) ?_
           refine EV_det (.int (if ca=92 then 1 else 0)) ?_ ?_
           ·repeat walk_at "st"
            refine IX_tAt hca (by omega) ?_
            repeat walk_at "st"
            by_cases h92:ca=92
            ·have e:decide ([ca]=[92])=true:=decide_eq_true (by rw [h92])
             rw [e,if_pos h92]
             show EV _ _ _ _ _ _
             repeat walk_at "st"
             exact ⟨rfl,rfl⟩
            ·have e:decide ([ca]=[92])=false:=decide_eq_false (fun q=>h92 (by simpa using q))
             rw [e,if_neg h92]
             show EV _ _ _ _ _ _
             repeat walk_at "st"
             exact ⟨rfl,rfl⟩
           repeat walk_at "st"
           have e2:(a:Int) + (if ca=92 then 1 else 0)=((if ca=92 then a + 1 else a:Nat):Int):=by split <;> omega
           rw [e2]
           generalize hja:(if ca=92 then a + 1 else a)=a2 at hgm ⊢
           cases hd:inner[a2]? with
           | none=>rw [hd] at hgm; cases hgm
           | some d =>
            rw [hd] at hgm
            dsimp only at hgm
            refine IX_tAt hd (by omega) ?_
            refine iadd_tt (by simp; omega) ?_
            repeat walk_at "st"
            exact ⟨n',_,by omega,Sub.weak' (loc':=[("regex",tx rx),("head",tx headL),("tail",tx tailL),("inner",tx inner),("at",.int ((a2 + 1:Nat):Int)),("sets",.raw (.ref D)),("barred",.raw (.bool bar)),("members",tx (m++[d]))]) (by walk_at "sub") rfl,a2 + 1,m++[d],rfl,hgm,by rw [List.length_append]; simp; omega⟩
     ·rw [if_neg h91] at hgo
      have e:decide ([ch]=[91])=false:=decide_eq_false (fun q=>h91 (by simpa using q))
      rw [e]
      show EXs _ _ _ _ _ _
      refine EXs_cons ?_
      refine EX_Aug_Name hk (by with_unfolding_all rfl) ?_
      refine EV_det (.int (if ch=92 then 1 else 0)) ?_ ?_
      ·repeat walk_at "st"
       refine IX_tAt hc (by omega) ?_
       repeat walk_at "st"
       by_cases h92:ch=92
       ·have e:decide ([ch]=[92])=true:=decide_eq_true (by rw [h92])
        rw [e,if_pos h92]
        show EV _ _ _ _ _ _
        repeat walk_at "st"
        exact ⟨rfl,rfl⟩
       ·have e:decide ([ch]=[92])=false:=decide_eq_false (fun q=>h92 (by simpa using q))
        rw [e,if_neg h92]
        show EV _ _ _ _ _ _
        repeat walk_at "st"
        exact ⟨rfl,rfl⟩
      repeat walk_at "st"
      have e2:(i:Int) + (if ch=92 then 1 else 0)=((if ch=92 then i + 1 else i:Nat):Int):=by split <;> omega
      rw [e2]
      generalize hj:(if ch=92 then i + 1 else i)=j at hgo ⊢
      cases hd:inner[j]? with
      | none=>rw [hd] at hgo; cases hgo
      | some d =>
       rw [hd] at hgo
       dsimp only at hgo
       refine IX_tAt hd (by omega) ?_
       repeat walk_at "st"
       refine EV_append ?_
       repeat walk_at "st"
       refine ⟨D,_,rfl,List.mem_cons_self,?_⟩
       repeat walk_at "st"
       refine ⟨_,_,.head,by rw [List.length_map]; omega,?_⟩
       repeat walk_at "st"
       refine ⟨n,_,by omega,Sub.weak' (loc':=[("regex",tx rx),("head",tx headL),("tail",tx tailL),("inner",tx inner),("at",.int ((j + 1:Nat):Int)),("sets",.raw (.ref D))]) (by walk_at "sub") rfl,j + 1,done++[⟨false,[d]⟩],?_,hgo,by rw [List.length_append]; simp; omega⟩
       rw [List.map_append]; rfl
   ·rw [if_neg hi] at hgo
    have e:decide ((i:Int) < (inner.length:Nat))=false:=decide_eq_false (by omega)
    rw [e]
    cases hgo
    show EXs _ _ _ _ _ _
    walk_at "st"
    refine EXs_cons (EX_Return (EV_freeze ?_))
    walk_at "st"
    exact ⟨D,_,_,rfl,rfl,Ends.mk [] rfl h⟩
end SL1sets
section SC1
open PySem.W PySem.Builtin PySem.Builtin.ObjectAttr
def clsB (i:Nat):List Stmt:=match stAt i with | .ClassDef _ _ _ b _ _ _ _ _ _ _=>b | _=>[]
def mtAt (i j:Nat):Stmt:=((clsB i).drop j).headD (.Pass ⟨0,0,0,0⟩)
def mB (i j:Nat):List Stmt:=match mtAt i j with | .FunctionDef _ _ b _ _ _ _ _ _ _=>b | _=>[]
def mkM (i j:Nat) (nm qn:Str) (c:Addr) (pm dflt ctup:Value) (clos:List (Str × Addr)):FuncData :=
  { name := nm, qualname := qn, params := (match mtAt i j with | .FunctionDef _ a _ _ _ _ _ _ _ _ => a | _ => ⟨[], [], none, [], [], none, []⟩), body := .stmts (mB i j), scope := (match mtAt i j with | .FunctionDef _ _ _ _ _ _ sc _ _ _ => sc | _ => default),
    globals := mainGlobals, closure := clos, defaults := dflt, kwdefaults := .none, doc := .none, pyModule := pm, annotations := none, code := .ref c, closureTuple := ctup, builtins := builtinsNs }
theorem fnEnv_mkM {i j:Nat} {nm qn:Str} {c:Addr} {pm dflt ctup:Value} {clos:List (Str × Addr)} {L f:Addr} (h:(mkM i j nm qn c pm dflt ctup clos).scope.kind=.function):FnEnv (fnFm (mkM i j nm qn c pm dflt ctup clos) L f):=⟨h,rfl,rfl⟩
structure MFn (g:Gl) (K:Frag) (C:Addr) (i j:Nat) (nm qn:Str) (f:Addr):Prop where
 find:findIn K (.ref C) nm=some (some (.ref f))
 typ:typeIn K (.ref f)=some (.type "function")
 at_:∃ c pm,FnAt g f (mkM i j nm qn c pm .none .none []) (mB i j)∧∃ Pt,CodeTab g c Pt
structure MFnD (g:Gl) (K:Frag) (C:Addr) (i j:Nat) (nm qn:Str) (f:Addr) (ds:Array Value):Prop where
 find:findIn K (.ref C) nm=some (some (.ref f))
 typ:typeIn K (.ref f)=some (.type "function")
 at_:∃ c pm T,FnAt g f (mkM i j nm qn c pm (.ref T) .none []) (mB i j)∧DfltAt g (mkM i j nm qn c pm (.ref T) .none []) ds
structure MFnS (g:Gl) (K:Frag) (C:Addr) (i j:Nat) (nm qn:Str) (f:Addr):Prop where
 find:findIn K (.ref C) nm=some (some (.ref f))
 typ:typeIn K (.ref f)=some (.type "function")
 at_:∃ c pm ct cc,FnAt g f (mkM i j nm qn c pm .none (.ref ct) [("__class__",cc)]) (mB i j)∧SupOk g (mkM i j nm qn c pm .none (.ref ct) [("__class__",cc)])∧ClsCell g (mkM i j nm qn c pm .none (.ref ct) [("__class__",cc)]) C
structure MFnSD (g:Gl) (K:Frag) (C:Addr) (i j:Nat) (nm qn:Str) (f:Addr) (ds:Array Value):Prop where
 find:findIn K (.ref C) nm=some (some (.ref f))
 typ:typeIn K (.ref f)=some (.type "function")
 at_:∃ c pm ct cc T,FnAt g f (mkM i j nm qn c pm (.ref T) (.ref ct) [("__class__",cc)]) (mB i j)∧DfltAt g (mkM i j nm qn c pm (.ref T) (.ref ct) [("__class__",cc)]) ds∧SupOk g (mkM i j nm qn c pm (.ref T) (.ref ct) [("__class__",cc)])∧ClsCell g (mkM i j nm qn c pm (.ref T) (.ref ct) [("__class__",cc)]) C
structure AccA where
 (fI fPush fPopF fPop fLen fStr fReset fWs fCount:Addr)
structure AccOk (g:Gl) (K:Frag) (C:Addr) (a:AccA):Prop where
 fg:Fg g K
 ops:LstOps K C
 typ:typeIn K (.ref C)=some (.type "type")
 st:StOk g
 bm:BmOk g
 init:∃ t,MFnSD g K C 7 0 "__init__" "_Accumulator.__init__" a.fI #[.int 0 t]
 push:MFn g K C 7 1 "push" "_Accumulator.push" a.fPush
 popF:∃ t,MFnD g K C 7 2 "pop_from" "_Accumulator.pop_from" a.fPopF #[.int 0 t]
 pop:MFnS g K C 7 3 "pop" "_Accumulator.pop" a.fPop
 len:MFn g K C 7 4 "__len__" "_Accumulator.__len__" a.fLen
 str:MFn g K C 7 5 "__str__" "_Accumulator.__str__" a.fStr
 reset:MFnD g K C 7 6 "reset" "_Accumulator.reset" a.fReset #[.none]
 ws:MFn g K C 7 7 "is_onlyws" "_Accumulator.is_onlyws" a.fWs
 count:MFnS g K C 7 8 "part_count" "_Accumulator.part_count" a.fCount
 size:findIn K (.ref C) "_initial_size" = some none
 app:findIn K (.ref C) "append" = some (some (.builtin "list.append"))∧typeIn K (.builtin "list.append")=some (.type "method_descriptor")
 nobool:findIn K (.ref C) "__bool__" = some none
 makes:makesLst K C=true
 calls:clsCalls K C=true
 sum:g.Blt "sum" (.builtin "sum")
 len_:g.Blt "len" (.builtin "len")
 str_:g.Blt "str" (.type "str")
 empty:∃ t,g.Glob "EMPTYSTRING" (.str (ofL []) t)
 pushGet:specialIn K (.ref a.fPush) "__get__" = some (some (.builtin "function.__get__"))
 pushTk:takesIn K (.ref a.fPush)=some false
theorem AccOk.cls {g:Gl} {K:Frag} {C:Addr} {a:AccA} (h:AccOk g K C a):∃ cd,clsIn K C=some cd:=let ⟨cd,e,_⟩:=h.ops.lst.mro; ⟨cd,e⟩
variable {g:Gl} {A:Around} {F:Fm} {σ:AS} {K:Frag} {C:Addr} {a:AccA} {P:PV→AS→Prop} {x dx:Addr}
theorem acc_init (hr:Rm A 1) (h:AccOk g K C a) {init:Int} {z:List (Addr × MO)} {loc} (hP:P (.raw .none) ⟨loc,(x,.inst dx C [("_initial_size",.int init)] (some [])) :: z⟩) :
  CLC g A F (.ref a.fI) [.raw (.ref x),.int init] ⟨loc,(x,.inst dx C [] (some [])) :: z⟩ P:=by
 obtain ⟨t,hm⟩:=h.init
 obtain ⟨c,pm,ct,cc,T,hf,hd,hs,hc⟩:=hm.at_
 refine CLCk_fn (n:=0) (xs:=["self","initial_size"]) (qs:=[.raw (.ref x),.int init]) hr hf (by decide) rfl (fun s vs S hvs=>?_) (by rfl) (by rfl) fun L=>?_
 ·refine ⟨vs,hvs,?_⟩
  match vs,hvs.length with
  | [v,w],_=>exact hd.binds S (by rfl) (by rfl)
 ·have hk:FnEnv (fnFm (mkM 7 0 "__init__" "_Accumulator.__init__" c pm (.ref T) (.ref ct) [("__class__",cc)]) L a.fI):=fnEnv_mkM rfl
  refine EXsAt_cons ?_
  refine EX_Assign_Attr h.fg ?_
  repeat walk_at "st"
  refine ⟨x,dx,C,[],some [],_,rfl,.lst h.ops.lst,.head,h.size,by simp,?_⟩
  refine EXsAt_expr (EVAt_super (K:=K) (x:=x) (dx:=dx) (C:=C) (l:=[]) h.fg h.ops.lst h.cls h.st hf hs hc sup_init (by rfl) (by rfl) (by decide +kernel) (.head _) rfl chk_init (run_init (.head _) ?_))
  exact hP
abbrev pairPV (p:List Nat × List Nat):PV:=.tup [tx p.1,tx p.2]
abbrev accMO (dx C:Addr) (init:Int) (ls:List (List Nat × List Nat)):MO:=.inst dx C [("_initial_size",.int init)] (some (ls.map pairPV))
def accLen (init:Int) (ls:List (List Nat × List Nat)):Int:=init + (ls.map fun p=>((p.1.length + p.2.length:Nat):Int)).sum
def accStr (ls:List (List Nat × List Nat)):List Nat:=(ls.map fun p=>p.1++p.2).flatten
variable {init:Int} {ls:List (List Nat × List Nat)} {zone':List (Addr × MO)}
theorem ZAt.mem {D:Addr} {m m':MO} {z z':List (Addr × MO)} (h:ZAt D m m' z z'):(D,m)∈z:=by
 induction h with
 | head=>exact List.mem_cons_self
 | tail _ ih=>exact List.mem_cons_of_mem _ ih
theorem acc_pushC (hr:Rm A 1) (h:AccOk g K C a) {p q:List Nat} (U:ZAt x (accMO dx C init ls) (accMO dx C init (ls++[(p,q)])) σ.zone zone') (hl:ls.length≤1000) (hP:P (.raw .none) ⟨σ.loc,zone'⟩) :
  CLC g A F (.ref a.fPush) [.raw (.ref x),tx p,tx q] σ P:=by
 obtain ⟨c,pm,hf,-⟩:=h.push.at_
 refine CLC_fnZ (n:=0) (xs:=["self","fws","string"]) hr hf (by decide) rfl (fun vs hv=>?_) (by rfl) (by rfl) fun L=>?_
 ·match vs,hv with | [u,v,w],_=>rfl
 ·have hk:FnEnv (fnFm (mkM 7 1 "push" "_Accumulator.push" c pm .none .none []) L a.fPush):=fnEnv_mkM rfl
  refine EXs_cons ?_
  refine EX_Expr ?_
  refine EV_MethB h.fg ?_
  repeat walk_at "st"
  refine ⟨x,dx,C,_,_,"list.append",_,rfl,U.mem,.lst h.ops.lst,h.app.1,h.app.2,by decide,by rfl,?_⟩
  repeat walk_at "st"
  refine CL_append_inst (l:=ls.map pairPV) (dx:=dx) (att:=[("_initial_size",.int init)]) h.fg h.ops.lst (zone':=zone') ?_ (by rw [List.length_map]; omega) ?_
  ·have:=U
   unfold accMO at this
   rw [List.map_append] at this
   exact this
  ·refine ⟨trivial,?_⟩
   repeat walk_at "st"
   exact ⟨[],_,rfl,hP⟩
theorem acc_push (hr:Rm A 1) (h:AccOk g K C a) {p q:List Nat} (U:ZAt x (accMO dx C init ls) (accMO dx C init (ls++[(p,q)])) σ.zone zone') (hl:ls.length≤1000) (hP:P (.raw .none) ⟨σ.loc,zone'⟩) :
  CL g A F (.ref a.fPush) [.raw (.ref x),tx p,tx q] σ P:=(acc_pushC hr h U hl hP).cl
theorem acc_count (hr:Rm A 1) (h:AccOk g K C a) (hz:(x,accMO dx C init ls)∈σ.zone) (hP:P (.int ls.length) σ):CL g A F (.ref a.fCount) [.raw (.ref x)] σ P:=by
 obtain ⟨c,pm,ct,cc,hf,hs,hc⟩:=h.count.at_
 refine (CLC_fnAt (n:=0) (xs:=["self"]) hr hf (by decide) rfl (fun vs hv=>?_) (by rfl) (by rfl) fun L=>?_).cl
 ·match vs,hv with | [u],_=>rfl
 ·have hk:FnEnv (fnFm (mkM 7 8 "part_count" "_Accumulator.part_count" c pm .none (.ref ct) [("__class__",cc)]) L a.fCount):=fnEnv_mkM rfl
  refine EXsAt_ret (EVAt_super (K:=K) (x:=x) (dx:=dx) (C:=C) (l:=ls.map pairPV) h.fg h.ops.lst h.cls h.st hf hs hc sup_len (by rfl) (by rfl) (by decide +kernel) hz rfl chk_len (run_len hz ?_))
  rw [List.length_map]
  exact hP
theorem acc_pop_some (hr:Rm A 3) (h:AccOk g K C a) {p q:List Nat} (U:ZAt x (accMO dx C init (ls++[(p,q)])) (accMO dx C init ls) σ.zone zone') (hl:ls.length≤1000) (hP:P (.tup [tx p,tx q]) ⟨σ.loc,zone'⟩) :
  CL g A F (.ref a.fPop) [.raw (.ref x)] σ P:=by
 obtain ⟨c,pm,ct,cc,hf,hs,hc⟩:=h.pop.at_
 refine (CLC_fnAt (n:=2) (xs:=["self"]) hr hf (by decide) rfl (fun vs hv=>?_) (by rfl) (by rfl) fun L=>?_).cl
 ·match vs,hv with | [u],_=>rfl
 ·have hk:FnEnv (fnFm (mkM 7 3 "pop" "_Accumulator.pop" c pm .none (.ref ct) [("__class__",cc)]) L a.fPop):=fnEnv_mkM rfl
  obtain ⟨c',pm',ct',cc',hf',-,-⟩:=h.count.at_
  refine EXsAt_cons ?_
  repeat walk_at "st"
  refine EV_MethFn h.fg ?_
  repeat walk_at "st"
  refine ⟨x,dx,C,_,_,_,_,_,rfl,U.mem,.lst h.ops.lst,h.count.find,h.count.typ,by rfl,hf',?_⟩
  repeat walk_at "st"
  refine acc_count (Rm.le hr.deeper (by decide)) h U.mem ?_
  repeat walk_at "st"
  rw [show ((((ls++[(p,q)]).length:Nat):Int) == 0)=false from by rw [beq_eq_false_iff_ne]; simp; omega]
  show EXs _ _ _ _ _ _
  repeat walk_at "st"
  refine EXsAt_ret (EVAt_super (K:=K) (x:=x) (dx:=dx) (C:=C) (l:=(ls++[(p,q)]).map pairPV) h.fg h.ops.lst h.cls h.st hf hs hc sup_pop (by rfl) (by rfl) (by decide +kernel) U.mem rfl ?_ ?_)
  ·exact chk_pop h.fg h.ops.lst h.typ U.mem
  ·have U':=U
   unfold accMO at U'
   rw [List.map_append] at U'
   exact run_pop (l:=ls.map pairPV) U' (by rw [List.length_map]; omega) hP
theorem acc_pop_none (hr:Rm A 3) (h:AccOk g K C a) (hz:(x,accMO dx C init [])∈σ.zone) (hP:P (.tup [tx [],tx []]) σ) :
  CL g A F (.ref a.fPop) [.raw (.ref x)] σ P:=by
 obtain ⟨c,pm,ct,cc,hf,hs,hc⟩:=h.pop.at_
 refine (CLC_fnAt (n:=2) (xs:=["self"]) hr hf (by decide) rfl (fun vs hv=>?_) (by rfl) (by rfl) fun L=>?_).cl
 ·match vs,hv with | [u],_=>rfl
 ·have hk:FnEnv (fnFm (mkM 7 3 "pop" "_Accumulator.pop" c pm .none (.ref ct) [("__class__",cc)]) L a.fPop):=fnEnv_mkM rfl
  obtain ⟨c',pm',ct',cc',hf',-,-⟩:=h.count.at_
  refine EXsAt_cons ?_
  repeat walk_at "st"
  refine EV_MethFn h.fg ?_
  repeat walk_at "st"
  refine ⟨x,dx,C,_,_,_,_,_,rfl,hz,.lst h.ops.lst,h.count.find,h.count.typ,by rfl,hf',?_⟩
  repeat walk_at "st"
  refine acc_count (Rm.le hr.deeper (by decide)) h hz ?_
  repeat walk_at "st"
  show EXs _ _ _ _ _ _
  repeat walk_at "st"
  exact hP
theorem acc_lenC (hr:Rm A 3) (h:AccOk g K C a) (hz:(x,accMO dx C init ls)∈σ.zone) (hi0:-1000000≤init) (hi1:init≤1000000) (hls:ls.length≤1000) (hlp:∀ p∈ls,p.1.length + p.2.length≤1000)
  (hP:P (.int (accLen init ls)) σ):CL g A F (.ref a.fLen) [.raw (.ref x)] σ P:=by
 obtain ⟨c,pm,hf,Pt,T⟩:=h.len.at_
 refine CL_fnE (n:=2) (xs:=["self"]) hr hf (by decide) rfl (fun vs hv=>?_) (by rfl) (by rfl) fun L=>?_
 ·match vs,hv with | [u],_=>rfl
 ·have hk:FnEnv (fnFm (mkM 7 4 "__len__" "_Accumulator.__len__" c pm .none .none []) L a.fLen):=fnEnv_mkM rfl
  refine EXs_cons ?_
  refine EX_Return ?_
  refine EV_sumGen (x:=x) (dx:=dx) (C:=C) (c:=c) (Pt:=Pt) (att:=[("_initial_size",.int init)]) (ls:=ls) (init:=init) (Rm.le hr.deeper (by decide)) h.fg h.ops.lst h.ops.iter h.size h.bm T rfl hk h.sum h.len_ hz rfl rfl hi0 hi1 hls hlp ?_
  exact Ends.mk [] rfl hP
theorem acc_strC (hr:Rm A 3) (h:AccOk g K C a) (hz:(x,accMO dx C init ls)∈σ.zone) (hls:ls.length≤1000) (hlp:∀ p∈ls,p.1.length + p.2.length≤1000)
  (hP:P (tx (accStr ls)) σ):CL g A F (.ref a.fStr) [.raw (.ref x)] σ P:=by
 obtain ⟨c,pm,hf,Pt,T⟩:=h.str.at_
 obtain ⟨t,he⟩:=h.empty
 refine CL_fnE (n:=2) (xs:=["self"]) hr hf (by decide) rfl (fun vs hv=>?_) (by rfl) (by rfl) fun L=>?_
 ·match vs,hv with | [u],_=>rfl
 ·have hk:FnEnv (fnFm (mkM 7 5 "__str__" "_Accumulator.__str__" c pm .none .none []) L a.fStr):=fnEnv_mkM rfl
  refine EXs_cons ?_
  refine EX_Return ?_
  refine EV_joinGen (x:=x) (dx:=dx) (C:=C) (c:=c) (Pt:=Pt) (att:=[("_initial_size",.int init)]) (ls:=ls) (Rm.le hr.deeper (by decide)) h.fg h.ops.lst h.ops.iter h.bm T rfl hk he hz rfl hls hlp ?_
  exact Ends.mk [] rfl hP
theorem ZAt.mk {D:Addr} {m m':MO} {post:List (Addr × MO)}:∀ pre:List (Addr × MO),ZAt D m m' (pre++(D,m) :: post) (pre++(D,m') :: post)
 | []=>.head
 | _ :: pre=>.tail (ZAt.mk pre)
theorem acc_reset_none (hr:Rm A 1) (h:AccOk g K C a) (U:ZAt x (accMO dx C init ls) (accMO dx C 0 []) σ.zone zone') (hl:ls.length≤1000) (hP:P (.raw .none) ⟨σ.loc,zone'⟩) :
  CL g A F (.ref a.fReset) [.raw (.ref x)] σ P:=by
 obtain ⟨c,pm,T,hf,hd⟩:=h.reset.at_
 obtain ⟨loc,zone⟩:=σ
 obtain ⟨pre,post,e1,e2⟩:=U.split
 dsimp only at e1 hP
 subst e1 e2
 refine (CLCk_fnZ (n:=0) (xs:=["self","startval"]) (ps:=[.raw (.ref x)]) (qs:=[.raw (.ref x),.raw .none]) (kw:=[]) hr hf (by decide) rfl (fun s vs S hvs=>?_) (by rfl) (by rfl) fun L=>?_).clc.cl
 ·cases hvs with | cons hv hvs=>cases hvs; exact ⟨_,.cons hv (.cons (.raw _) .nil),hd.binds S (by rfl) (by rfl)⟩
 ·have hk:FnEnv (fnFm (mkM 7 6 "reset" "_Accumulator.reset" c pm (.ref T) .none []) L a.fReset):=fnEnv_mkM rfl
  refine EXs_cons ?_
  repeat walk_at "st"
  refine is_rr (by rfl) ?_
  repeat walk_at "st"
  show EXs _ _ _ _ _ _
  repeat walk_at "st"
  refine EV_List ?_
  repeat walk_at "st"
  refine EX_SetSlice_inst h.fg ?_
  repeat walk_at "st"
  refine ⟨x,dx,C,[("_initial_size",.int init)],ls.map pairPV,[],pre++(x,accMO dx C init []) :: post,rfl,.inl rfl,h.ops,?_,by simp; omega,?_⟩
  ·have e:(ls.map pairPV).take (slo (ls.map pairPV).length none)++[]++(ls.map pairPV).drop (max (slo (ls.map pairPV).length none) (shi (ls.map pairPV).length none))=([]:List (List Nat × List Nat)).map pairPV:=by
    show List.take 0 _++[]++List.drop (max 0 (ls.map pairPV).length) _=[]
    simp
   rw [e]
   exact ZAt.mk pre
  ·repeat walk_at "st"
   refine EX_Assign_Attr h.fg ?_
   repeat walk_at "st"
   refine ⟨x,dx,C,_,_,pre++(x,accMO dx C 0 []) :: post,rfl,.lst h.ops.lst,ZAt.mk pre,h.size,by simp,?_⟩
   repeat walk_at "st"
   exact ⟨[],_,rfl,hP⟩
theorem acc_reset (hr:Rm A 1) (h:AccOk g K C a) {new:List (List Nat × List Nat)} (U:ZAt x (accMO dx C init ls) (accMO dx C 0 new) σ.zone zone') (hl:ls.length + new.length≤1000) (hP:P (.raw .none) ⟨σ.loc,zone'⟩) :
  CL g A F (.ref a.fReset) [.raw (.ref x),.lst (new.map pairPV)] σ P:=by
 obtain ⟨c,pm,T,hf,hd⟩:=h.reset.at_
 obtain ⟨loc,zone⟩:=σ
 obtain ⟨pre,post,e1,e2⟩:=U.split
 dsimp only at e1 hP
 subst e1 e2
 refine (CLCk_fnZ (n:=0) (xs:=["self","startval"]) (ps:=[.raw (.ref x),.lst (new.map pairPV)]) (qs:=[.raw (.ref x),.lst (new.map pairPV)]) (kw:=[]) hr hf (by decide) rfl (fun s vs S hvs=>?_) (by rfl) (by rfl) fun L=>?_).clc.cl
 ·refine ⟨vs,hvs,?_⟩
  match vs,hvs.length with
  | [v,w],_=>exact hd.binds S (by rfl) (by rfl)
 ·have hk:FnEnv (fnFm (mkM 7 6 "reset" "_Accumulator.reset" c pm (.ref T) .none []) L a.fReset):=fnEnv_mkM rfl
  refine EXs_cons ?_
  repeat walk_at "st"
  refine is_lst_none ?_
  repeat walk_at "st"
  show EXs _ _ _ _ _ _
  repeat walk_at "st"
  refine EX_SetSlice_inst h.fg ?_
  repeat walk_at "st"
  refine ⟨x,dx,C,[("_initial_size",.int init)],ls.map pairPV,new.map pairPV,pre++(x,accMO dx C init new) :: post,rfl,.inl rfl,h.ops,?_,by simp; omega,?_⟩
  ·have e:(ls.map pairPV).take (slo (ls.map pairPV).length none)++new.map pairPV++(ls.map pairPV).drop (max (slo (ls.map pairPV).length none) (shi (ls.map pairPV).length none))=new.map pairPV:=by
    show List.take 0 _++_++List.drop (max 0 (ls.map pairPV).length) _=_
    simp
   rw [e]
   exact ZAt.mk pre
  ·repeat walk_at "st"
   refine EX_Assign_Attr h.fg ?_
   repeat walk_at "st"
   refine ⟨x,dx,C,_,_,pre++(x,accMO dx C 0 new) :: post,rfl,.lst h.ops.lst,ZAt.mk pre,h.size,by simp,?_⟩
   repeat walk_at "st"
   exact ⟨[],_,rfl,hP⟩
theorem acc_popF (hr:Rm A 1) (h:AccOk g K C a) {i:Nat} (U:ZAt x (accMO dx C init ls) (accMO dx C init (ls.take i)) σ.zone zone') (hi:i≤ls.length) (hl:ls.length≤1000) (hP:P (.lst ((ls.drop i).map pairPV)) ⟨σ.loc,zone'⟩) :
  CL g A F (.ref a.fPopF) [.raw (.ref x),.int i] σ P:=by
 obtain ⟨t,hm⟩:=h.popF
 obtain ⟨c,pm,T,hf,hd⟩:=hm.at_
 obtain ⟨loc,zone⟩:=σ
 obtain ⟨pre,post,e1,e2⟩:=U.split
 dsimp only at e1 hP
 subst e1 e2
 have hc:slo (ls.map pairPV).length (some (i:Int))=i:=by
  show clipAt _ _=_
  have:=clipAt_cast (ls.map pairPV).length (i:Int)
  rw [List.length_map] at this ⊢
  rw [if_neg (by omega)] at this
  omega
 refine (CLCk_fnZ (n:=0) (xs:=["self","i"]) (ps:=[.raw (.ref x),.int i]) (qs:=[.raw (.ref x),.int i]) (kw:=[]) hr hf (by decide) rfl (fun s vs S hvs=>?_) (by rfl) (by rfl) fun L=>?_).clc.cl
 ·refine ⟨vs,hvs,?_⟩
  match vs,hvs.length with
  | [v,w],_=>exact hd.binds S (by rfl) (by rfl)
 ·have hk:FnEnv (fnFm (mkM 7 2 "pop_from" "_Accumulator.pop_from" c pm (.ref T) .none []) L a.fPopF):=fnEnv_mkM rfl
  refine EXs_cons ?_
  refine EX_Assign_Name hk ?_
  refine EV_SubSlice_inst h.fg ?_
  repeat walk_at "st"
  refine ⟨_,rfl,?_⟩
  repeat walk_at "st"
  refine ⟨x,dx,C,[("_initial_size",.int init)],ls.map pairPV,rfl,h.ops,by simp,by rw [List.length_map]; omega,?_⟩
  repeat walk_at "st"
  refine EX_SetSlice_inst h.fg ?_
  refine EV_List ?_
  repeat walk_at "st"
  refine ⟨_,rfl,?_⟩
  repeat walk_at "st"
  refine ⟨x,dx,C,[("_initial_size",.int init)],ls.map pairPV,[],pre++(x,accMO dx C init (ls.take i)) :: post,rfl,.inl rfl,h.ops,?_,by simp; omega,?_⟩
  ·have e:(ls.map pairPV).take (slo (ls.map pairPV).length (some (i:Int)))++[]++(ls.map pairPV).drop (max (slo (ls.map pairPV).length (some (i:Int))) (shi (ls.map pairPV).length none))=(ls.take i).map pairPV:=by
    rw [hc]
    show List.take i _++[]++List.drop (max i (ls.map pairPV).length) _=_
    simp [List.map_take]
    omega
   rw [e]
   exact ZAt.mk pre
  ·repeat walk_at "st"
   refine ⟨[],_,rfl,?_⟩
   have e:sl (ls.map pairPV) (some (i:Int)) none=(ls.drop i).map pairPV:=by
    unfold sl
    rw [hc]
    show List.take ((ls.map pairPV).length - i) _=_
    rw [List.take_of_length_le (by simp),List.map_drop]
   rw [← e] at hP
   exact hP
theorem accLen_nonneg (h0:0≤init):∃ n:Nat,accLen init ls=n∧(n:Int)=accLen init ls:=by
 have e:0≤accLen init ls:=by
  unfold accLen
  have:∀ l:List (List Nat × List Nat),0≤(l.map fun p=>((p.1.length + p.2.length:Nat):Int)).sum:=fun l=>by
   induction l with
   | nil=>exact Int.le_refl _
   | cons p r ih=>rw [List.map_cons,List.sum_cons]; omega
  have:=this ls
  omega
 exact ⟨(accLen init ls).toNat,by omega,by omega⟩
theorem accLen_le {B:Nat} (hls:ls.length≤1000) (hlp:∀ p∈ls,p.1.length + p.2.length≤1000):accLen init ls≤init + 1000000:=by
 unfold accLen
 have:∀ l:List (List Nat × List Nat),(∀ p∈l,p.1.length + p.2.length≤1000)→(l.map fun p=>((p.1.length + p.2.length:Nat):Int)).sum≤1000 * l.length:=fun l h=>by
  induction l with
  | nil=>exact Int.le_refl _
  | cons p r ih =>
   rw [List.map_cons,List.sum_cons,List.length_cons]
   have:=ih fun p hp=>h p (List.mem_cons_of_mem _ hp)
   have:=h p List.mem_cons_self
   omega
 have:=this ls hlp
 omega
structure AccSz (init:Int) (ls:List (List Nat × List Nat)):Prop where
 i0:0≤init
 i1:init≤1000000
 len:ls.length≤1000
 each:∀ p∈ls,p.1.length + p.2.length≤1000
theorem acc_len (hr:Rm A 4) (h:AccOk g K C a) (hz:(x,accMO dx C init ls)∈σ.zone) (sz:AccSz init ls) (hP:P (.int (accLen init ls)) σ):CL g A F (.builtin "len") [.raw (.ref x)] σ P:=by
 refine CL_len_inst h.fg hz h.len.find h.len.typ ?_
 obtain ⟨n,e1,e2⟩:=accLen_nonneg (ls:=ls) sz.i0
 have:=accLen_le (B:=0) (init:=init) sz.len sz.each
 have:=sz.i1
 refine acc_lenC (Rm.in1 hr) h hz (by have:=sz.i0; omega) sz.i1 sz.len sz.each ⟨n,by rw [e1],by omega,?_⟩
 rw [e2]; exact hP
theorem acc_truth (hr:Rm A 4) (h:AccOk g K C a) (hz:(x,accMO dx C init ls)∈σ.zone) (sz:AccSz init ls) {P:Bool→AS→Prop} (hP:P (accLen init ls != 0) σ):TT g A F (.raw (.ref x)) σ P:=by
 refine TT_inst h.fg hz h.nobool h.len.find h.len.typ ?_
 obtain ⟨n,e1,e2⟩:=accLen_nonneg (ls:=ls) sz.i0
 have:=accLen_le (B:=0) (init:=init) sz.len sz.each
 have:=sz.i1
 refine acc_lenC (Rm.in1 hr) h hz (by have:=sz.i0; omega) sz.i1 sz.len sz.each ⟨n,by rw [e1],by omega,?_⟩
 rw [e1] at hP
 have:(((n:Nat):Int) != 0)=(n != 0):=by
  by_cases q:n=0
  ·subst q; rfl
  ·rw [bne_iff_ne.mpr q,bne_iff_ne.mpr (by omega)]
 rw [this] at hP
 exact hP
theorem acc_str (hr:Rm A 5) (h:AccOk g K C a) (hz:(x,accMO dx C init ls)∈σ.zone) (sz:AccSz init ls) (hP:P (tx (accStr ls)) σ):CL g A F (.type "str") [.raw (.ref x)] σ P :=
 CL_str_inst (n:=4) hr h.fg hz h.str.find h.str.typ (acc_strC (Rm.le (Rm.in2 hr) (by decide)) h hz sz.len sz.each ⟨_,rfl,hP⟩)
def onlyWs (init:Int) (ls:List (List Nat × List Nat)):Bool:=init == 0 && (accLen init ls == 0 || isSpaceL (accStr ls))
theorem acc_onlyws (hr:Rm A 6) (h:AccOk g K C a) (hz:(x,accMO dx C init ls)∈σ.zone) (sz:AccSz init ls) (hP:P (.raw (.bool (onlyWs init ls))) σ) :
  CL g A F (.ref a.fWs) [.raw (.ref x)] σ P:=by
 obtain ⟨c,pm,hf,-⟩:=h.ws.at_
 refine CL_fnE (n:=5) (xs:=["self"]) hr hf (by decide) rfl (fun vs hv=>?_) (by rfl) (by rfl) fun L=>?_
 ·match vs,hv with | [u],_=>rfl
 ·have hk:FnEnv (fnFm (mkM 7 7 "is_onlyws" "_Accumulator.is_onlyws" c pm .none .none []) L a.fWs):=fnEnv_mkM rfl
  refine EXs_cons ?_
  refine EX_Return ?_
  refine EV_And ?_
  repeat walk_at "st"
  refine EV_Attr h.fg ?_
  repeat walk_at "st"
  refine ⟨x,dx,C,_,_,.int init,rfl,hz,.lst h.ops.lst,h.size,by rfl,by rfl,?_⟩
  repeat walk_at "st"
  unfold onlyWs at hP
  cases hi:(init == 0) with
  | false =>
   rw [hi,Bool.false_and] at hP
   simp only [Bool.false_eq_true,if_false]
   exact Ends.mk [] rfl hP
  | true =>
   rw [hi] at hP
   dsimp only [if_true,Bool.true_and] at hP ⊢
   refine EV_Or ?_
   refine EV_Unary ?_
   repeat walk_at "st"
   refine not_op ?_
   refine acc_truth (σ:=⟨List.zip ["self"] [.raw (.ref x)],σ.zone⟩) (Rm.le hr.deeper (by decide)) h hz sz ?_
   repeat walk_at "st"
   cases hl:(accLen init ls == 0) with
   | true =>
    have hl':accLen init ls=0:=by simpa using hl
    rw [hl] at hP
    rw [show (!(accLen init ls != 0))=true from by rw [hl']; decide]
    rw [if_pos rfl]
    exact Ends.mk [] rfl hP
   | false =>
    rw [hl,Bool.false_or] at hP
    have hl':(!(accLen init ls != 0))=false:=by show (!(!(accLen init ls == 0)))=false; rw [hl]; rfl
    rw [hl']
    show EV _ _ _ _ _ _
    refine EV_Meth ?_
    refine EV_Call_flat ?_
    refine EV_builtin hk h.str_ ?_
    refine ⟨_,rfl,rfl,?_⟩
    repeat walk_at "st"
    refine acc_str hr.deeper h hz sz ?_
    refine ⟨_,MT_of PySem.F.slot_str_isspace PySem.F.type_str_isspace,?_⟩
    repeat walk_at "st"
    refine CL_isspace ?_
    exact Ends.mk [] rfl hP
end SC1
section SC2
open PySem.W PySem.Builtin PySem.Builtin.ObjectAttr
structure VfA where
 (fI fStr_ fStr fNl fTr fFeed fMax fAsc fApp:Addr)
structure VfOk (g:Gl) (K:Frag) (C CA:Addr) (b:VfA) (a:AccA):Prop where
 acc:AccOk g K CA a
 cls:ClsObj K C
 init:MFn g K C 6 0 "__init__" "_ValueFormatter.__init__" b.fI
 str_:MFn g K C 6 1 "_str" "_ValueFormatter._str" b.fStr_
 nl:MFn g K C 6 3 "newline" "_ValueFormatter.newline" b.fNl
 feed:MFn g K C 6 5 "feed" "_ValueFormatter.feed" b.fFeed
 asc:MFn g K C 6 7 "_ascii_split" "_ValueFormatter._ascii_split" b.fAsc
 app:MFn g K C 6 8 "_append_chunk" "_ValueFormatter._append_chunk" b.fApp
 no1:findIn K (.ref C) "_maxlen" = some none
 no2:findIn K (.ref C) "_continuation_ws" = some none
 no3:findIn K (.ref C) "_continuation_ws_len" = some none
 no4:findIn K (.ref C) "_splitchars" = some none
 no5:findIn K (.ref C) "_lines" = some none
 no6:findIn K (.ref C) "_current_line" = some none
 no7:findIn K (.ref C) "header_encoding" = some none
 makes:makesIn K C=true
 calls:clsCalls K C=true
 gAcc:g.Glob "_Accumulator" (.ref CA)
 gVf:g.Glob "_ValueFormatter" (.ref C)
 range_:g.Blt "range" (.type "range")
 iter_:g.Blt "iter" (.builtin "iter")
 zip_:g.Blt "zip" (.type "zip")
structure VfI where
 (fo dfo CF Lo ac dac CA:Addr) (maxlen:Int) (cw sc:List Nat)
abbrev VfI.att (V:VfI):List (Str × PV):=[("_maxlen",.int V.maxlen),("_continuation_ws",tx V.cw),("_continuation_ws_len",.int V.cw.length),("_splitchars",tx V.sc),("_lines",.raw (.ref V.Lo)),("_current_line",.raw (.ref V.ac))]
abbrev VfI.z (V:VfI) (lines:List (List Nat)) (init:Int) (ls:List (List Nat × List Nat)) (rest:List (Addr × MO)):List (Addr × MO) :=
 (V.ac,accMO V.dac V.CA init ls) :: (V.Lo,.list (lines.map tx)) :: (V.fo,.inst V.dfo V.CF V.att none) :: rest
variable {g:Gl} {A:Around} {F:Fm} {σ:AS} {K:Frag} {C CA:Addr} {a:AccA} {b:VfA} {P:PV→AS→Prop} {x dx:Addr} {loc:List (Str × PV)} {rest:List (Addr × MO)} {V:VfI} {lines:List (List Nat)} {init:Int} {ls:List (List Nat × List Nat)}
theorem vf_init (hr:Rm A 4) (h:VfOk g K C CA b a) {headerlen maxlen:Int} {cw sc:List Nat} (hc:cw.length≤1000) {fo dfo:Addr} {z:List (Addr × MO)}
  (hP:∀ Lo ac dac,P (.raw .none) ⟨loc,(VfI.mk fo dfo C Lo ac dac CA maxlen cw sc).z [] headerlen [] z⟩) :
  CLC g A F (.ref b.fI) [.raw (.ref fo),.int headerlen,.int maxlen,tx cw,tx sc] ⟨loc,(fo,.inst dfo C [] none) :: z⟩ P:=by
 obtain ⟨c,pm,hf,-⟩:=h.init.at_
 refine CLC_fnZ (n:=3) (xs:=["self","headerlen","maxlen","continuation_ws","splitchars"]) hr hf (by decide) rfl (fun vs hv=>?_) (by rfl) (by rfl) fun L=>?_
 ·match vs,hv with | [u1,u2,u3,u4,u5],_=>rfl
 ·have hk:FnEnv (fnFm (mkM 6 0 "__init__" "_ValueFormatter.__init__" c pm .none .none []) L b.fI):=fnEnv_mkM rfl
  have hfg:=h.acc.fg
  refine EXs_cons ?_
  refine EX_Assign_Attr hfg ?_
  repeat walk_at "st"
  refine ⟨fo,dfo,C,_,_,_,rfl,.obj h.cls,.head,h.no1,by simp,?_⟩
  repeat walk_at "st"
  refine EX_Assign_Attr hfg ?_
  repeat walk_at "st"
  refine ⟨fo,dfo,C,_,_,_,rfl,.obj h.cls,.head,h.no2,Nat.le_of_ble_eq_true (by with_unfolding_all rfl),?_⟩
  repeat walk_at "st"
  refine EX_Assign_Attr hfg ?_
  refine EV_Call_flat ?_
  refine EV_builtin hk h.acc.len_ ?_
  refine ⟨_,rfl,rfl,?_⟩
  repeat walk_at "st"
  refine CL_len_t (by omega) ?_
  repeat walk_at "st"
  refine ⟨fo,dfo,C,_,_,_,rfl,.obj h.cls,.head,h.no3,Nat.le_of_ble_eq_true (by with_unfolding_all rfl),?_⟩
  repeat walk_at "st"
  refine EX_Assign_Attr hfg ?_
  repeat walk_at "st"
  refine ⟨fo,dfo,C,_,_,_,rfl,.obj h.cls,.head,h.no4,Nat.le_of_ble_eq_true (by with_unfolding_all rfl),?_⟩
  repeat walk_at "st"
  refine EX_Assign_Attr hfg ?_
  refine EV_List_new ?_
  refine EVs_nil ⟨by simp,fun Lo=>?_⟩
  repeat walk_at "st"
  refine ⟨fo,dfo,C,_,_,_,rfl,.obj h.cls,.tail .head,h.no5,Nat.le_of_ble_eq_true (by with_unfolding_all rfl),?_⟩
  repeat walk_at "st"
  refine EX_Assign_Attr hfg ?_
  refine EV_Call_cls hfg h.acc.calls ?_
  refine EV_global hk h.gAcc ?_
  refine ⟨rfl,?_⟩
  repeat walk_at "st"
  refine CL_newL (fI:=a.fI) (n:=2) hr.deeper hfg h.acc.makes ?_ ?_ fun A' ac dac hA'=>?_
  ·obtain ⟨t,hm⟩:=h.acc.init; exact hm.find
  ·obtain ⟨t,hm⟩:=h.acc.init; exact hm.typ
  ·refine acc_init (Rm.le hA' (by decide)) h.acc ?_
   refine ⟨rfl,?_⟩
   repeat walk_at "st"
   refine ⟨fo,dfo,C,_,_,_,rfl,.obj h.cls,.tail (.tail .head),h.no6,Nat.le_of_ble_eq_true (by with_unfolding_all rfl),?_⟩
   repeat walk_at "st"
   exact ⟨[],_,rfl,hP Lo ac dac⟩
def nlLs (ls:List (List Nat × List Nat)):List (List Nat × List Nat):=match ls.getLast? with
 | none=>[([],[])]
 | some e=>if e=([32],[]) then ls.dropLast else ls
def nlLines (lines:List (List Nat)) (init:Int) (ls:List (List Nat × List Nat)):List (List Nat):=if 0 < accLen init (nlLs ls) then lines++[accStr (nlLs ls)] else lines
theorem nl_tail {L:Addr} {c:Addr} {pm:Value} {Q:Fl→AS→Prop} {ls1:List (List Nat × List Nat)} {fd} (hfd:fd=mkM 6 3 "newline" "_ValueFormatter.newline" c pm .none .none []) (hr:Rm A 7) (h:VfOk g K V.CF V.CA b a) (sz:AccSz init ls1) (hws:0 < accLen init ls1→onlyWs init ls1=false) (hl:lines.length≤1000)
  (hself:loc.lookup ("self":Str)=some (.raw (.ref V.fo))) (hQ:Q .next ⟨loc,V.z (if 0 < accLen init ls1 then lines++[accStr ls1] else lines) 0 [] rest⟩) :
  EXs g A (fnFm fd L b.fNl) ((mB 6 3).drop 2) ⟨loc,V.z lines init ls1 rest⟩ Q:=by
 subst hfd
 obtain ⟨c1,pm1,hf1,-⟩:=h.acc.ws.at_
 obtain ⟨c2,pm2,T2,hf2,-⟩:=h.acc.reset.at_
 have hk:FnEnv (fnFm (mkM 6 3 "newline" "_ValueFormatter.newline" c pm .none .none []) L b.fNl):=fnEnv_mkM rfl
 have hfg:=h.acc.fg
 have hreset:∀ lines',Q .next ⟨loc,V.z lines' 0 [] rest⟩→EXs g A (fnFm (mkM 6 3 "newline" "_ValueFormatter.newline" c pm .none .none []) L b.fNl) ((mB 6 3).drop 3) ⟨loc,V.z lines' init ls1 rest⟩ Q:=fun lines' hq=>by
  refine EXs_cons ?_
  refine EX_Expr ?_
  refine EV_MethFn hfg ?_
  refine EV_Attr hfg ?_
  refine EV_local hk hself ?_
  refine ⟨V.fo,V.dfo,V.CF,_,_,_,rfl,.tail _ (.tail _ (.head _)),.obj h.cls,h.no6,by rfl,by rfl,?_⟩
  refine ⟨V.ac,V.dac,V.CA,_,_,_,_,_,rfl,.head _,.lst h.acc.ops.lst,h.acc.reset.find,h.acc.reset.typ,by rfl,hf2,?_⟩
  repeat walk_at "st"
  refine acc_reset_none (Rm.le hr (by decide)) h.acc .head sz.len ?_
  refine ⟨trivial,?_⟩
  repeat walk_at "st"
  exact hq
 refine EXs_cons ?_
 refine EX_If ?_
 refine TR_Compare ?_
 refine EV_Call_flat ?_
 refine EV_builtin hk h.acc.len_ ?_
 refine ⟨_,rfl,rfl,?_⟩
 refine EVs_cons ?_
 refine EV_Attr hfg ?_
 refine EV_local hk hself ?_
 refine ⟨V.fo,V.dfo,V.CF,_,_,_,rfl,.tail _ (.tail _ (.head _)),.obj h.cls,h.no6,by rfl,by rfl,?_⟩
 refine EVs_nil ?_
 refine acc_len (Rm.le hr (by decide)) h.acc (.head _) sz ?_
 repeat walk_at "st"
 by_cases hp:0 < accLen init ls1
 ·rw [if_pos hp] at hQ
  rw [decide_eq_true (show accLen init ls1 > 0 from hp),if_pos rfl]
  refine EXs_cons ?_
  refine EX_If ?_
  refine TR_BoolOp ?_
  refine TRs_cons ?_
  refine TR_plain ?_
  refine EV_MethFn hfg ?_
  refine EV_Attr hfg ?_
  refine EV_local hk hself ?_
  refine ⟨V.fo,V.dfo,V.CF,_,_,_,rfl,.tail _ (.tail _ (.head _)),.obj h.cls,h.no6,by rfl,by rfl,?_⟩
  refine ⟨V.ac,V.dac,V.CA,_,_,_,_,_,rfl,.head _,.lst h.acc.ops.lst,h.acc.ws.find,h.acc.ws.typ,by rfl,hf1,?_⟩
  refine EVs_nil ?_
  refine acc_onlyws (Rm.le hr (by decide)) h.acc (.head _) sz ?_
  rw [hws hp]
  refine TT_bool ?_
  show EXs _ _ _ _ _ _
  refine EXs_cons ?_
  refine EX_Expr ?_
  refine EV_append ?_
  refine EV_Attr hfg ?_
  refine EV_local hk hself ?_
  refine ⟨V.fo,V.dfo,V.CF,_,_,_,rfl,.tail _ (.tail _ (.head _)),.obj h.cls,h.no5,by rfl,by rfl,?_⟩
  refine ⟨V.Lo,lines.map tx,rfl,.tail _ (.head _),?_⟩
  refine EV_Call_flat ?_
  refine EV_builtin hk h.acc.str_ ?_
  refine ⟨_,rfl,rfl,?_⟩
  refine EVs_cons ?_
  refine EV_Attr hfg ?_
  refine EV_local hk hself ?_
  refine ⟨V.fo,V.dfo,V.CF,_,_,_,rfl,.tail _ (.tail _ (.head _)),.obj h.cls,h.no6,by rfl,by rfl,?_⟩
  refine EVs_nil ?_
  refine acc_str (Rm.le hr (by decide)) h.acc (.head _) sz ?_
  refine ⟨lines.map tx,_,.tail .head,by rw [List.length_map]; omega,?_⟩
  refine ⟨trivial,?_⟩
  refine EXs_nil ?_
  refine EXs_nil ?_
  have:=hreset _ hQ
  unfold VfI.z at this
  rw [show (lines++[accStr ls1]).map tx=lines.map tx++[tx (accStr ls1)] from by simp] at this
  exact this
 ·rw [if_neg hp] at hQ
  rw [decide_eq_false (show ¬ (accLen init ls1 > 0) from hp),if_neg (by decide)]
  refine EXs_nil ?_
  exact hreset _ hQ
theorem ls_snoc {α:Type} (l:List α):l=[]∨∃ r e,l=r++[e]:=by
 rcases List.eq_nil_or_concat l with h | ⟨r,e,h⟩
 ·exact .inl h
 ·exact .inr ⟨r,e,by simpa using h⟩
theorem nlLs_snoc {r:List (List Nat × List Nat)} {e:List Nat × List Nat}:nlLs (r++[e])=if e=([32],[]) then r else r++[e]:=by
 unfold nlLs; simp
theorem vf_newline (hr:Rm A 8) (h:VfOk g K V.CF V.CA b a) (sz:AccSz init ls) (hws:0 < accLen init (nlLs ls)→onlyWs init (nlLs ls)=false) (hl:lines.length≤1000)
  (hP:P (.raw .none) ⟨loc,V.z (nlLines lines init ls) 0 [] rest⟩):CL g A F (.ref b.fNl) [.raw (.ref V.fo)] ⟨loc,V.z lines init ls rest⟩ P:=by
 obtain ⟨c,pm,hf,-⟩:=h.nl.at_
 refine (CLC_fnZ (n:=7) (xs:=["self"]) hr hf (by decide) rfl (fun vs hv=>?_) (by rfl) (by rfl) fun L=>?_).cl
 ·match vs,hv with | [u1],_=>rfl
 ·have hk:FnEnv (fnFm (mkM 6 3 "newline" "_ValueFormatter.newline" c pm .none .none []) L b.fNl):=fnEnv_mkM rfl
  have hfg:=h.acc.fg
  have hr':=hr.deeper (env:=callEnv (mkM 6 3 "newline" "_ValueFormatter.newline" c pm .none .none []) L b.fNl)
  obtain ⟨c1,pm1,ct1,cc1,hf1,-⟩:=h.acc.pop.at_
  obtain ⟨c2,pm2,hf2,-⟩:=h.acc.push.at_
  refine EXs_cons ?_
  refine EX_Assign_Name hk ?_
  refine EV_MethFn hfg ?_
  refine EV_Attr hfg ?_
  refine EV_local hk (by rfl) ?_
  refine ⟨V.fo,V.dfo,V.CF,_,_,_,rfl,.tail _ (.tail _ (.head _)),.obj h.cls,h.no6,by rfl,by rfl,?_⟩
  refine ⟨V.ac,V.dac,V.CA,_,_,_,_,_,rfl,.head _,.lst h.acc.ops.lst,h.acc.pop.find,h.acc.pop.typ,by rfl,hf1,?_⟩
  refine EVs_nil ?_
  have hpush:∀ (p q:List Nat) (ls':List (List Nat × List Nat)),ls'.length≤1000→(hne:¬ ([p,q]:List (List Nat))=[[32],[]])→AccSz init (ls'++[(p,q)])→nlLs ls=ls'++[(p,q)] →
    EXs g (A.deeper (callEnv (mkM 6 3 "newline" "_ValueFormatter.newline" c pm .none .none []) L b.fNl)) (fnFm (mkM 6 3 "newline" "_ValueFormatter.newline" c pm .none .none []) L b.fNl) ((mB 6 3).drop 1)
     ⟨[("self",.raw (.ref V.fo)),("end_of_line",.tup ([p,q].map tx))],V.z lines init ls' rest⟩ fun fl σ'=>∃ pre z,σ'.zone=pre++z∧P (match fl with | .ret p=>p | _=>.raw .none) ⟨loc,z⟩:=by
   intro p q ls' hl' hne sz' hnl
   refine EXs_cons ?_
   refine EX_If ?_
   refine TR_Compare ?_
   refine EV_local hk (by rfl) ?_
   refine EV_Tuple ?_
   repeat walk_at "st"
   refine ne_tups (as:=[p,q]) (bs:=[[32],[]]) hr' ?_
   rw [decide_eq_false hne]
   refine TT_bool ?_
   show EXs _ _ _ _ _ _
   refine EXs_cons ?_
   refine EX_Expr ?_
   refine EV_MethStar hfg ?_
   refine EV_Attr hfg ?_
   refine EV_local hk (by rfl) ?_
   refine ⟨V.fo,V.dfo,V.CF,_,_,_,rfl,.tail _ (.tail _ (.head _)),.obj h.cls,h.no6,by rfl,by rfl,?_⟩
   refine ⟨V.ac,V.dac,V.CA,_,_,_,_,_,rfl,.head _,h.acc.ops.lst,h.acc.push.find,h.acc.push.typ,h.acc.pushGet,h.acc.pushTk,by rfl,hf2,?_⟩
   refine EV_local hk (by rfl) ?_
   refine ⟨_,rfl,by simp,?_⟩
   refine acc_pushC (Rm.le hr' (by decide)) h.acc .head hl' ?_
   refine ⟨trivial,?_⟩
   refine EXs_nil ?_
   refine nl_tail rfl hr' h sz' (by rw [← hnl]; exact hws) hl (by rfl) ?_
   refine ⟨[],_,rfl,?_⟩
   unfold nlLines at hP
   rw [hnl] at hP
   exact hP
  rcases ls_snoc ls with e | ⟨r,⟨p,q⟩,e⟩
  ·subst e
   refine acc_pop_none (Rm.le hr' (by decide)) h.acc (.head _) ?_
   refine hpush [] [] [] (by simp) (by decide) ⟨sz.i0,sz.i1,by simp,by simp⟩ rfl
  ·subst e
   refine acc_pop_some (Rm.le hr' (by decide)) h.acc .head (by have:=sz.len; simp at this; omega) ?_
   by_cases hne:([p,q]:List (List Nat))=[[32],[]]
   ·cases hne
    have hnl:nlLs (r++[([32],[])])=r:=by rw [nlLs_snoc,if_pos rfl]
    refine EXs_cons ?_
    refine EX_If ?_
    refine TR_Compare ?_
    refine EV_local hk (by rfl) ?_
    refine EV_Tuple ?_
    repeat walk_at "st"
    refine ne_tups (as:=[[32],[]]) (bs:=[[32],[]]) hr' ?_
    refine TT_bool ?_
    show EXs _ _ _ _ _ _
    refine EXs_nil ?_
    refine nl_tail rfl hr' h ⟨sz.i0,sz.i1,by have:=sz.len; simp at this; omega,fun p hp=>sz.each p (by simp [hp])⟩ (by rw [hnl] at hws; exact hws) hl (by rfl) ?_
    refine ⟨[],_,rfl,?_⟩
    unfold nlLines at hP
    rw [hnl] at hP
    exact hP
   ·refine hpush p q r (by have:=sz.len; simp at this; omega) hne sz ?_
    rw [nlLs_snoc,if_neg]
    intro q'; cases q'; exact hne rfl
end SC2
section SC3
open PySem.W PySem.Builtin PySem.Builtin.ObjectAttr
variable {g:Gl} {A:Around} {F:Fm} {σ:AS} {K:Frag} {C CA:Addr} {a:AccA} {b:VfA} {P:PV→AS→Prop} {x dx:Addr} {loc:List (Str × PV)} {rest:List (Addr × MO)} {V:VfI} {lines:List (List Nat)} {init:Int} {ls:List (List Nat × List Nat)}
theorem vf_str (hr:Rm A 9) (h:VfOk g K V.CF V.CA b a) (sz:AccSz init ls) (hws:0 < accLen init (nlLs ls)→onlyWs init (nlLs ls)=false) (hl:lines.length≤1000) {sep:List Nat} (hfit:JoinFit sep (nlLines lines init ls))
  (hP:P (tx (joinL sep (nlLines lines init ls))) ⟨loc,V.z (nlLines lines init ls) 0 [] rest⟩):CL g A F (.ref b.fStr_) [.raw (.ref V.fo),tx sep] ⟨loc,V.z lines init ls rest⟩ P:=by
 obtain ⟨c,pm,hf,-⟩:=h.str_.at_
 refine (CLC_fnZ (n:=8) (xs:=["self","linesep"]) hr hf (by decide) rfl (fun vs hv=>?_) (by rfl) (by rfl) fun L=>?_).cl
 ·match vs,hv with | [u1,u2],_=>rfl
 ·have hk:FnEnv (fnFm (mkM 6 1 "_str" "_ValueFormatter._str" c pm .none .none []) L b.fStr_):=fnEnv_mkM rfl
  have hfg:=h.acc.fg
  obtain ⟨c1,pm1,hf1,-⟩:=h.nl.at_
  refine EXs_cons ?_
  refine EX_Expr ?_
  refine EV_MethFn hfg ?_
  refine EV_local hk (by rfl) ?_
  refine ⟨V.fo,V.dfo,V.CF,_,_,_,_,_,rfl,.tail _ (.tail _ (.head _)),.obj h.cls,h.nl.find,h.nl.typ,by rfl,hf1,?_⟩
  refine EVs_nil ?_
  refine vf_newline hr.deeper h sz hws hl ?_
  refine ⟨trivial,?_⟩
  refine EXs_cons ?_
  refine EX_Return ?_
  refine EV_Meth ?_
  refine EV_local hk (by rfl) ?_
  refine ⟨_,MT_join,?_⟩
  refine EVs_cons ?_
  refine EV_Attr hfg ?_
  refine EV_local hk (by rfl) ?_
  refine ⟨V.fo,V.dfo,V.CF,_,_,_,rfl,.tail _ (.tail _ (.head _)),.obj h.cls,h.no5,by rfl,by rfl,?_⟩
  refine EVs_nil ?_
  refine CL_join_z (.tail _ (.head _)) hfit ?_
  exact ⟨[],_,rfl,hP⟩
def down:Nat→List PV
 | 0=>[]
 | n + 1=>.int ((n + 1:Nat):Int) :: down n
theorem down_map:∀ n:Nat,(List.range n).map (fun (i:Nat)=>PV.int ((n:Int) + (i:Int) * (-1)))=down n
 | 0=>rfl
 | n + 1=>by
  rw [List.range_succ_eq_map,List.map_cons,List.map_map]
  unfold down
  rw [show (((n + 1:Nat):Int) + ((0:Nat):Int) * (-1))=((n + 1:Nat):Int) by omega]
  congr 1
  ·rw [← down_map n]
   refine List.map_congr_left fun i _=>?_
   show PV.int _=PV.int _
   congr 1
   simp only [Nat.succ_eq_add_one]
   omega
theorem rangeDown_size (n:Nat):(Builtin.Range.rangeSize n 0 (-1)).toNat=n:=by
 unfold Builtin.Range.rangeSize
 rw [if_neg (by decide)]
 split
 ·have:(-(-1:Int))=1:=rfl
  rw [this,Int.ediv_one]; omega
 ·omega
theorem rangeDown (n:Nat):rangeL n (-1) (Builtin.Range.rangeSize n 0 (-1)).toNat=down n:=by
 rw [rangeDown_size]; exact down_map n
theorem small_down {n:Nat} (h:n≤1000000):Builtin.Range.small n 0 (-1)=true:=by
 unfold Builtin.Range.small
 have e:Builtin.Range.rangeSize n 0 (-1)=n:=by
  have:=rangeDown_size n
  have h0:0≤Builtin.Range.rangeSize n 0 (-1):=by
   unfold Builtin.Range.rangeSize
   rw [if_neg (by decide)]
   split
   ·have:(-(-1:Int))=1:=rfl
    rw [this,Int.ediv_one]; omega
   ·omega
  omega
 rw [e]
 rw [if_neg (by decide)]
 simp only [Builtin.Range.rangeFitsLong,Bool.and_eq_true,Bool.or_eq_true,decide_eq_true_eq,beq_iff_eq]
 omega
def ifB:Stmt→List Stmt
 | .If _ b _ _=>b
 | _=>[]
def forB:Stmt→List Stmt
 | .For _ _ b _ _=>b
 | _=>[]
def forE:Stmt→List Stmt
 | .For _ _ _ e _=>e
 | _=>[]
def forT:Stmt→Expr
 | .For t _ _ _ _=>t
 | _=>.Name "" ⟨0,0,0,0⟩
def hdS (l:List Stmt):Stmt:=l.headD (.Pass ⟨0,0,0,0⟩)
def ckIf:List Stmt:=ifB (hdS ((mB 6 8).drop 1))
def ckFor:Stmt:=hdS ckIf
def ckIn:Stmt:=hdS (forB ckFor)
def hdIs (ch:Nat) (l:List Nat):Bool:=!l.isEmpty && decide ([l.getD 0 0]=[ch])
def ltIs (ch:Nat) (l:List Nat):Bool:=!l.isEmpty && decide ([l.getD (l.length - 1) 0]=[ch])
def condAt (ls:List (List Nat × List Nat)) (ch i:Nat):Bool:=(isSpaceL [ch] && hdIs ch (ls.getD i ([],[])).1) || ltIs ch (ls.getD (i - 1) ([],[])).2
def findI (ls:List (List Nat × List Nat)) (ch:Nat):Nat→Option Nat
 | 0=>none
 | i + 1=>if condAt ls ch (i + 1) then some (i + 1) else findI ls ch i
def findS (ls:List (List Nat × List Nat)):List Nat→Option Nat
 | []=>none
 | ch :: r=>match findI ls ch (ls.length - 1) with
  | some i=>some i
  | none=>findS ls r
theorem IX_inst_pair {value slice:Expr} {i:Nat} (h:VfOk g K V.CF V.CA b a) (hz:(V.ac,accMO V.dac V.CA init ls)∈σ.zone) (hi:i < ls.length) (hl:ls.length≤1000) (hP:P (pairPV (ls.getD i ([],[]))) σ)
  (hs:∀ v u,subscripted slice false v u=operate [v,u] (getItem v u):=by intro _ _; with_unfolding_all rfl):IX g A F value slice (.raw (.ref V.ac)) (.int (i:Int)) σ P:=by
 refine IX_inst h.acc.fg h.acc.ops hz (by omega) (p:=pairPV (ls.getD i ([],[]))) ?_ (by rw [List.length_map]; omega) hP hs
 have:(i:Int).toNat < ls.length:=by omega
 rw [List.getElem?_map,List.getElem?_eq_getElem this,List.getD_eq_getElem?_getD,List.getElem?_eq_getElem (show i < ls.length by omega)]; rfl
theorem IX_pair0 {value slice:Expr} {p q:PV} (hP:P p σ) (hs:∀ v u,subscripted slice false v u=operate [v,u] (getItem v u):=by intro _ _; with_unfolding_all rfl):IX g A F value slice (.tup [p,q]) (.int 0) σ P :=
 IX_tup (j:=0) rfl rfl (Nat.le_of_ble_eq_true rfl) hP hs
theorem IX_pair1 {value slice:Expr} {p q:PV} (hP:P q σ) (hs:∀ v u,subscripted slice false v u=operate [v,u] (getItem v u):=by intro _ _; with_unfolding_all rfl):IX g A F value slice (.tup [p,q]) (.int 1) σ P :=
 IX_tup (j:=1) rfl rfl (Nat.le_of_ble_eq_true rfl) hP hs
theorem lk_ne {x y:Str} {p q:PV} {l:List (Str × PV)} (hl:l.lookup x=some q) (hne:(x == y)=false:=by decide):(setL y p l).lookup x=some q:=by
 rw [lookup_setL,hne]; exact hl
theorem lk_eq {x:Str} {p:PV} {l:List (Str × PV)}:(setL x p l).lookup x=some p:=by
 rw [lookup_setL,beq_self_eq_true]; rfl
theorem chunk_prev {L c:Addr} {pm:Value} {Q:Fl→AS→Prop} {ch i:Nat} {fd} (hfd:fd=mkM 6 8 "_append_chunk" "_ValueFormatter._append_chunk" c pm .none .none []) (h:VfOk g K V.CF V.CA b a) (sz:AccSz init ls)
  (hself:loc.lookup ("self":Str)=some (.raw (.ref V.fo))) (hch:loc.lookup ("ch":Str)=some (tx [ch])) (hi:loc.lookup ("i":Str)=some (.int ((i + 1:Nat):Int))) (hil:i + 1 < ls.length)
  (hy:ltIs ch (ls.getD i ([],[])).2=true→Q .brk ⟨setL "prevpart" (tx (ls.getD i ([],[])).2) loc,V.z lines init ls rest⟩) (hn:ltIs ch (ls.getD i ([],[])).2=false→Q .next ⟨setL "prevpart" (tx (ls.getD i ([],[])).2) loc,V.z lines init ls rest⟩) :
  EXs g A (fnFm fd L b.fApp) ((forB ckIn).drop 1) ⟨loc,V.z lines init ls rest⟩ Q:=by
 subst hfd
 have hk:FnEnv (fnFm (mkM 6 8 "_append_chunk" "_ValueFormatter._append_chunk" c pm .none .none []) L b.fApp):=fnEnv_mkM rfl
 have hfg:=h.acc.fg
 have hlen:=sz.len
 have hmem:ls.getD i ([],[])∈ls:=by rw [List.getD_eq_getElem?_getD,List.getElem?_eq_getElem (by omega)]; exact List.getElem_mem _
 have hsz:=sz.each _ hmem
 refine EXs_cons ?_
 refine EX_Assign_Name hk ?_
 refine EV_Subscript ?_
 refine EV_Subscript ?_
 refine EV_Attr hfg ?_
 refine EV_local hk hself ?_
 refine ⟨V.fo,V.dfo,V.CF,_,_,_,rfl,.tail _ (.tail _ (.head _)),.obj h.cls,h.no6,by rfl,by rfl,?_⟩
 refine EV_BinOp ?_
 refine EV_local hk hi ?_
 refine EV_int ?_
 refine sub_ii ?_
 rw [show (((i + 1:Nat):Int) - 1)=(i:Nat) by omega]
 refine IX_inst_pair h (.head _) (by omega) hlen ?_
 refine EV_int ?_
 refine IX_pair1 ?_
 refine EXs_cons ?_
 refine EX_If ?_
 refine TR_BoolOp ?_
 refine TRs_cons ?_
 refine TR_plain ?_
 refine EV_local hk lk_eq ?_
 refine TT_str (by omega) ?_
 unfold ltIs at hy hn
 cases he:(ls.getD i ([],[])).2.isEmpty with
 | true =>
  rw [he] at hn
  refine EXs_nil ?_
  refine EXs_nil ?_
  exact hn rfl
 | false =>
  rw [he] at hn hy
  refine TRs_cons ?_
  refine TR_Compare ?_
  refine EV_Subscript ?_
  refine EV_local hk lk_eq ?_
  refine EV_Unary ?_
  refine EV_int ?_
  refine neg_i ?_
  refine IX_tLast (by intro q; rw [q] at he; cases he) (by omega) ?_
  refine EV_local hk (lk_ne hch) ?_
  refine c_eq_tt ?_
  refine TT_bool ?_
  cases hd:decide ([(ls.getD i ([],[])).2.getD ((ls.getD i ([],[])).2.length - 1) 0]=[ch]) with
  | true =>
   rw [hd] at hy
   refine TRs_nil ?_
   refine EXs_cons ?_
   exact EX_Break (hy rfl)
  | false =>
   rw [hd] at hn
   refine EXs_nil ?_
   refine EXs_nil ?_
   exact hn rfl
theorem chunk_inner {L c:Addr} {pm:Value} {Q:Fl→AS→Prop} {ch:Nat} {fd} (hfd:fd=mkM 6 8 "_append_chunk" "_ValueFormatter._append_chunk" c pm .none .none []) (hr:Rm A 0) (h:VfOk g K V.CF V.CA b a) (sz:AccSz init ls)
  (hnone:findI ls ch (ls.length - 1)=none→Q .cont ⟨[("self",.raw (.ref V.fo)),("ch",tx [ch])],V.z lines init ls rest⟩)
  (hsome:∀ j loc',findI ls ch (ls.length - 1)=some j→Sub loc' [("self",.raw (.ref V.fo)),("i",.int (j:Nat))]→Q .next ⟨loc',V.z lines init ls rest⟩) :
  ForP g A (fnFm fd L b.fApp) (forT ckIn) (forB ckIn) (forE ckIn) (down (ls.length - 1)) ⟨[("self",.raw (.ref V.fo)),("ch",tx [ch])],V.z lines init ls rest⟩ Q:=by
 subst hfd
 have hk:FnEnv (fnFm (mkM 6 8 "_append_chunk" "_ValueFormatter._append_chunk" c pm .none .none []) L b.fApp):=fnEnv_mkM rfl
 have hfg:=h.acc.fg
 refine ForP_ind (fun xs σ'=>∃ i,i≤ls.length - 1∧xs=down i∧σ'=⟨[("self",.raw (.ref V.fo)),("ch",tx [ch])],V.z lines init ls rest⟩∧findI ls ch i=findI ls ch (ls.length - 1)) ?_ ?_ _ _ ⟨_,Nat.le_refl _,rfl,rfl,rfl⟩
 ·rintro _ ⟨i,hi,hx,rfl,hf⟩
  cases i with
  | succ i=>cases hx
  | zero =>
   refine EXs_cons ?_
   exact EX_Continue (hnone hf.symm)
 ·rintro x xs _ ⟨i,hi,hx,rfl,hf⟩
  cases i with
  | zero=>cases hx
  | succ i =>
   cases hx
   have hlen:=sz.len
   refine AS1_name hk ?_
   refine EXs_cons ?_
   refine EX_If ?_
   refine TR_plain ?_
   refine EV_Meth ?_
   refine EV_local hk (by rfl) ?_
   refine ⟨_,MT_of PySem.F.slot_str_isspace PySem.F.type_str_isspace,?_⟩
   refine EVs_nil ?_
   refine CL_isspace ?_
   refine TT_bool ?_
   have hfi:findI ls ch (i + 1)=if condAt ls ch (i + 1) then some (i + 1) else findI ls ch i:=rfl
   rw [hfi] at hf
   have hbase:Sub [("self",PV.raw (.ref V.fo)),("ch",tx [ch]),("i",.int ((i + 1:Nat):Int))] [("self",.raw (.ref V.fo)),("ch",tx [ch])]:=by walk_at "sub"
   have hmem:ls.getD (i + 1) ([],[])∈ls:=by rw [List.getD_eq_getElem?_getD,List.getElem?_eq_getElem (by omega)]; exact List.getElem_mem _
   have hsz:=sz.each _ hmem
   have hprev:∀ loc',loc'.lookup ("self":Str)=some (.raw (.ref V.fo))→loc'.lookup ("ch":Str)=some (tx [ch])→loc'.lookup ("i":Str)=some (.int ((i + 1:Nat):Int))→(isSpaceL [ch] && hdIs ch (ls.getD (i + 1) ([],[])).1)=false →
     EXs g A (fnFm (mkM 6 8 "_append_chunk" "_ValueFormatter._append_chunk" c pm .none .none []) L b.fApp) ((forB ckIn).drop 1) ⟨loc',V.z lines init ls rest⟩ fun fl σ₂=>match fl with
      | .next | .cont=>∃ σ₃,Weak g (fnFm (mkM 6 8 "_append_chunk" "_ValueFormatter._append_chunk" c pm .none .none []) L b.fApp) σ₂ σ₃∧(∀ x∈σ₃.own,x∈σ₂.own)∧∃ k,k≤ls.length - 1∧down i=down k∧σ₃=⟨[("self",.raw (.ref V.fo)),("ch",tx [ch])],V.z lines init ls rest⟩∧findI ls ch k=findI ls ch (ls.length - 1)
      | .brk=>Q .next σ₂
      | .ret p=>Q (.ret p) σ₂:=by
    intro loc' h1 h2 h3 hc1
    refine chunk_prev rfl h sz h1 h2 h3 (by omega) (fun hl=>?_) (fun hl=>?_)
    ·have hc:condAt ls ch (i + 1)=true:=by unfold condAt; rw [hc1,Bool.false_or]; exact hl
     rw [hc,if_pos rfl] at hf
     exact hsome _ _ hf.symm (.cons (lk_ne h1) (.cons (lk_ne h3) .nil))
    ·have hc:condAt ls ch (i + 1)=false:=by unfold condAt; rw [hc1,Bool.false_or]; exact hl
     rw [hc,if_neg (by decide)] at hf
     exact ⟨_,Sub.weak' (.cons (lk_ne h1) (.cons (lk_ne h2) .nil)) rfl,fun _ h=>h,i,by omega,rfl,rfl,hf⟩
   cases hs:isSpaceL [ch] with
   | false =>
    refine EXs_nil ?_
    exact hprev _ rfl rfl rfl (by rw [hs]; rfl)
   | true =>
    refine EXs_cons ?_
    refine EX_Assign_Name hk ?_
    refine EV_Subscript ?_
    refine EV_Subscript ?_
    refine EV_Attr hfg ?_
    refine EV_local hk (by rfl) ?_
    refine ⟨V.fo,V.dfo,V.CF,_,_,_,rfl,.tail _ (.tail _ (.head _)),.obj h.cls,h.no6,by rfl,by rfl,?_⟩
    refine EV_local hk (by rfl) ?_
    refine IX_inst_pair h (.head _) (by omega) hlen ?_
    refine EV_int ?_
    refine IX_pair0 ?_
    refine EXs_cons ?_
    refine EX_If ?_
    refine TR_BoolOp ?_
    refine TRs_cons ?_
    refine TR_plain ?_
    refine EV_local hk lk_eq ?_
    refine TT_str (by omega) ?_
    cases he:(ls.getD (i + 1) ([],[])).1.isEmpty with
    | true =>
     refine EXs_nil ?_
     refine EXs_nil ?_
     exact hprev _ (lk_ne rfl) (lk_ne rfl) (lk_ne rfl) (by unfold hdIs; rw [he,hs]; rfl)
    | false =>
     refine TRs_cons ?_
     refine TR_Compare ?_
     refine EV_Subscript ?_
     refine EV_local hk lk_eq ?_
     refine EV_int ?_
     refine IX_tD (by omega) (by
      cases q:(ls.getD (i + 1) ([],[])).1 with
      | nil=>rw [q] at he; cases he
      | cons _ _=>simp) (by omega) ?_
     refine EV_local hk (lk_ne rfl) ?_
     refine c_eq_tt ?_
     refine TT_bool ?_
     cases hd:decide ([(ls.getD (i + 1) ([],[])).1.getD (0:Int).toNat 0]=[ch]) with
     | true =>
      refine TRs_nil ?_
      refine EXs_cons ?_
      refine EX_Break ?_
      have hc:condAt ls ch (i + 1)=true:=by
       unfold condAt hdIs
       rw [he,hs,show decide ([(ls.getD (i + 1) ([],[])).1.getD 0 0]=[ch])=true from hd]; rfl
      rw [hc,if_pos rfl] at hf
      exact hsome _ _ hf.symm (.cons (lk_ne rfl) (.cons (lk_ne rfl) .nil))
     | false =>
      refine EXs_nil ?_
      refine EXs_nil ?_
      exact hprev _ (lk_ne rfl) (lk_ne rfl) (lk_ne rfl) (by
       unfold hdIs
       rw [he,hs,show decide ([(ls.getD (i + 1) ([],[])).1.getD 0 0]=[ch])=false from hd]; rfl)
theorem chars_ofL (l:List Nat):chars (ofL l)=l.map fun c=>tx [c]:=by
 unfold chars
 show (l.toArray.toList).map _=_
 simp only [List.map_inj_left]
 intro c _
 rfl
abbrev ckFd (c:Addr) (pm:Value):FuncData:=mkM 6 8 "_append_chunk" "_ValueFormatter._append_chunk" c pm .none .none []
theorem chunk_end {L c:Addr} {pm:Value} {Q:Fl→AS→Prop} {j:Nat} (hr:Rm A 7) (h:VfOk g K V.CF V.CA b a) (sz:AccSz init ls) (hl:lines.length≤1000) (hj:j≤ls.length)
  (hQ:∀ loc',Q .next ⟨loc',V.z (lines++[accStr (ls.take j)]) 0 (ls.drop j) rest⟩) :
  EXs g A (fnFm (ckFd c pm) L b.fApp) (ckIf.drop 1) ⟨[("self",.raw (.ref V.fo)),("i",.int (j:Nat))],V.z lines init ls rest⟩ Q:=by
 have hk:FnEnv (fnFm (ckFd c pm) L b.fApp):=fnEnv_mkM rfl
 have hfg:=h.acc.fg
 have hlen:=sz.len
 obtain ⟨t1,hm1⟩:=h.acc.popF
 obtain ⟨c1,pm1,T1,hf1,-⟩:=hm1.at_
 obtain ⟨c2,pm2,T2,hf2,-⟩:=h.acc.reset.at_
 refine EXs_cons ?_
 refine EX_Assign_Name hk ?_
 refine EV_MethFn hfg ?_
 refine EV_Attr hfg ?_
 refine EV_local hk (by rfl) ?_
 refine ⟨V.fo,V.dfo,V.CF,_,_,_,rfl,.tail _ (.tail _ (.head _)),.obj h.cls,h.no6,by rfl,by rfl,?_⟩
 refine ⟨V.ac,V.dac,V.CA,_,_,_,_,_,rfl,.head _,.lst h.acc.ops.lst,hm1.find,hm1.typ,by rfl,hf1,?_⟩
 refine EVs_cons ?_
 refine EV_local hk (by rfl) ?_
 refine EVs_nil ?_
 refine acc_popF (Rm.le hr (by decide)) h.acc .head hj hlen ?_
 refine EXs_cons ?_
 refine EX_Expr ?_
 refine EV_append ?_
 refine EV_Attr hfg ?_
 refine EV_local hk (by rfl) ?_
 refine ⟨V.fo,V.dfo,V.CF,_,_,_,rfl,.tail _ (.tail _ (.head _)),.obj h.cls,h.no5,by rfl,by rfl,?_⟩
 refine ⟨V.Lo,lines.map tx,rfl,.tail _ (.head _),?_⟩
 refine EV_Call_flat ?_
 refine EV_builtin hk h.acc.str_ ?_
 refine ⟨_,rfl,rfl,?_⟩
 refine EVs_cons ?_
 refine EV_Attr hfg ?_
 refine EV_local hk (by rfl) ?_
 refine ⟨V.fo,V.dfo,V.CF,_,_,_,rfl,.tail _ (.tail _ (.head _)),.obj h.cls,h.no6,by rfl,by rfl,?_⟩
 refine EVs_nil ?_
 have sz2:AccSz init (ls.take j):=⟨sz.i0,sz.i1,by rw [List.length_take]; omega,fun p hp=>sz.each p (List.mem_of_mem_take hp)⟩
 refine acc_str (Rm.le hr (by decide)) h.acc (.head _) sz2 ?_
 refine ⟨lines.map tx,_,.tail .head,by rw [List.length_map]; omega,?_⟩
 refine ⟨trivial,?_⟩
 refine EXs_cons ?_
 refine EX_Expr ?_
 refine EV_MethFn hfg ?_
 refine EV_Attr hfg ?_
 refine EV_local hk (by rfl) ?_
 refine ⟨V.fo,V.dfo,V.CF,_,_,_,rfl,.tail _ (.tail _ (.head _)),.obj h.cls,h.no6,by rfl,by rfl,?_⟩
 refine ⟨V.ac,V.dac,V.CA,_,_,_,_,_,rfl,.head _,.lst h.acc.ops.lst,h.acc.reset.find,h.acc.reset.typ,by rfl,hf2,?_⟩
 refine EVs_cons ?_
 refine EV_local hk (by rfl) ?_
 refine EVs_nil ?_
 refine acc_reset (ls:=ls.take j) (init:=init) (Rm.le hr (by decide)) h.acc .head (by rw [List.length_take,List.length_drop]; omega) ?_
 refine ⟨trivial,?_⟩
 refine EXs_nil ?_
 have:=hQ [("self",.raw (.ref V.fo)),("i",.int (j:Nat)),("remainder",.lst ((ls.drop j).map pairPV))]
 unfold VfI.z at this
 rw [show (lines++[accStr (ls.take j)]).map tx=lines.map tx++[tx (accStr (ls.take j))] from by simp] at this
 exact this
theorem chunk_else {L c:Addr} {pm:Value} {Q:Fl→AS→Prop} {fws s:List Nat} (hr:Rm A 8) (h:VfOk g K V.CF V.CA b a) (sz:AccSz init (ls++[(fws,s)])) (hl:lines.length≤1000)
  (hQ:∀ loc',Q (.ret (.raw .none)) ⟨loc',if 0 < init then V.z (nlLines lines init ls) 0 [(if fws=[] then [32] else fws,s)] rest else V.z lines init (ls++[(fws,s)]) rest⟩) :
  EXs g A (fnFm (ckFd c pm) L b.fApp) (forE ckFor) ⟨[("self",.raw (.ref V.fo))],V.z lines init (ls++[(fws,s)]) rest⟩ Q:=by
 have hk:FnEnv (fnFm (ckFd c pm) L b.fApp):=fnEnv_mkM rfl
 have hfg:=h.acc.fg
 have hlen:=sz.len
 rw [List.length_append] at hlen
 have hlen1:ls.length + 1≤1000:=hlen
 have hez:fws.length + s.length≤1000:=sz.each (fws,s) (by simp)
 obtain ⟨c1,pm1,ct1,cc1,hf1,-⟩:=h.acc.pop.at_
 obtain ⟨c2,pm2,hf2,-⟩:=h.acc.push.at_
 obtain ⟨c3,pm3,hf3,-⟩:=h.nl.at_
 have szl:AccSz init ls:=⟨sz.i0,sz.i1,by omega,fun p hp=>sz.each p (by simp [hp])⟩
 have hpush:∀ loc' (f:List Nat) lines' init' ls',loc'.lookup ("self":Str)=some (.raw (.ref V.fo))→loc'.lookup ("fws":Str)=some (tx f)→loc'.lookup ("part":Str)=some (tx s)→ls'.length≤1000 →
   Q (.ret (.raw .none)) ⟨loc',V.z lines' init' (ls'++[(f,s)]) rest⟩→EXs g A (fnFm (ckFd c pm) L b.fApp) ((forE ckFor).drop 2) ⟨loc',V.z lines' init' ls' rest⟩ Q:=by
  intro loc' f lines' init' ls' h1 h2 h3 h4 hq
  refine EXs_cons ?_
  refine EX_Expr ?_
  refine EV_MethFn hfg ?_
  refine EV_Attr hfg ?_
  refine EV_local hk h1 ?_
  refine ⟨V.fo,V.dfo,V.CF,_,_,_,rfl,.tail _ (.tail _ (.head _)),.obj h.cls,h.no6,by rfl,by rfl,?_⟩
  refine ⟨V.ac,V.dac,V.CA,_,_,_,_,_,rfl,.head _,.lst h.acc.ops.lst,h.acc.push.find,h.acc.push.typ,by rfl,hf2,?_⟩
  refine EVs_cons ?_
  refine EV_local hk h2 ?_
  refine EVs_cons ?_
  refine EV_local hk h3 ?_
  refine EVs_nil ?_
  refine acc_push (Rm.le hr (by decide)) h.acc .head h4 ?_
  refine ⟨trivial,?_⟩
  refine EXs_cons ?_
  refine EX_Return_none ?_
  exact hq
 refine EXs_cons ?_
 refine EX_Assign_Tuple (Rm.le hr (by decide)) ?_
 refine EV_MethFn hfg ?_
 refine EV_Attr hfg ?_
 refine EV_local hk (by rfl) ?_
 refine ⟨V.fo,V.dfo,V.CF,_,_,_,rfl,.tail _ (.tail _ (.head _)),.obj h.cls,h.no6,by rfl,by rfl,?_⟩
 refine ⟨V.ac,V.dac,V.CA,_,_,_,_,_,rfl,.head _,.lst h.acc.ops.lst,h.acc.pop.find,h.acc.pop.typ,by rfl,hf1,?_⟩
 refine EVs_nil ?_
 refine acc_pop_some (Rm.le hr (by decide)) h.acc .head (by omega) ?_
 refine ⟨_,rfl,rfl,?_⟩
 repeat walk_at "asg"
 refine EXs_cons ?_
 refine EX_If ?_
 refine TR_Compare ?_
 refine EV_Attr hfg ?_
 refine EV_Attr hfg ?_
 refine EV_local hk (by rfl) ?_
 refine ⟨V.fo,V.dfo,V.CF,_,_,_,rfl,.tail _ (.tail _ (.head _)),.obj h.cls,h.no6,by rfl,by rfl,?_⟩
 refine ⟨V.ac,V.dac,V.CA,_,_,_,rfl,.head _,.lst h.acc.ops.lst,h.acc.size,by rfl,by rfl,?_⟩
 refine EV_int ?_
 refine c_gt_ii ?_
 refine TT_bool ?_
 by_cases hp:0 < init
 ·rw [decide_eq_true hp,if_pos rfl]
  have hno:∀ l,onlyWs init l=false:=fun l=>by unfold onlyWs; rw [show (init == 0)=false from beq_eq_false_iff_ne.mpr (by omega)]; rfl
  have hQ':=fun loc'=>hQ loc'
  simp only [if_pos hp] at hQ'
  refine EXs_cons ?_
  refine EX_Expr ?_
  refine EV_MethFn hfg ?_
  refine EV_local hk (by rfl) ?_
  refine ⟨V.fo,V.dfo,V.CF,_,_,_,_,_,rfl,.tail _ (.tail _ (.head _)),.obj h.cls,h.nl.find,h.nl.typ,by rfl,hf3,?_⟩
  refine EVs_nil ?_
  refine vf_newline hr h szl (fun _=>hno _) hl ?_
  refine ⟨trivial,?_⟩
  refine EXs_cons ?_
  refine EX_If ?_
  refine TR_Not ?_
  refine TR_plain ?_
  refine EV_local hk (by rfl) ?_
  refine TT_str (by omega) ?_
  cases fws with
  | nil =>
   refine EXs_cons ?_
   refine EX_Assign_Name hk ?_
   refine EV_strL _ ?_ (by walk_at "lit")
   refine EXs_nil ?_
   refine EXs_nil ?_
   exact hpush _ [32] _ _ _ rfl rfl rfl (by simp) (hQ' _)
  | cons f0 fr =>
   refine EXs_nil ?_
   refine EXs_nil ?_
   exact hpush _ (f0 :: fr) _ _ _ rfl rfl rfl (by simp) (hQ' _)
 ·rw [decide_eq_false hp,if_neg (by decide)]
  have hQ':=fun loc'=>hQ loc'
  simp only [if_neg hp] at hQ'
  refine EXs_nil ?_
  exact hpush _ fws _ _ _ rfl rfl rfl (by omega) (hQ' _)
abbrev VSt:=List (List Nat) × Int × List (List Nat × List Nat)
def chunk (maxlen:Int) (sc:List Nat) (st:VSt) (fws s:List Nat):VSt :=
 if maxlen < accLen st.2.1 (st.2.2++[(fws,s)]) then
  match findS (st.2.2++[(fws,s)]) sc with
  | some i=>(st.1++[accStr ((st.2.2++[(fws,s)]).take i)],0,(st.2.2++[(fws,s)]).drop i)
  | none=>if 0 < st.2.1 then (nlLines st.1 st.2.1 st.2.2,0,[(if fws=[] then [32] else fws,s)]) else (st.1,st.2.1,st.2.2++[(fws,s)])
 else (st.1,st.2.1,st.2.2++[(fws,s)])
theorem findI_le {ls:List (List Nat × List Nat)} {ch:Nat}:∀ {n i:Nat},findI ls ch n=some i→i≤n
 | 0,_,e=>by cases e
 | n + 1,i,e=>by
  unfold findI at e
  split at e
  ·cases e; exact Nat.le_refl _
  ·have:=findI_le e; omega
abbrev VfI.s (V:VfI) (st:VSt) (rest:List (Addr × MO)):List (Addr × MO):=V.z st.1 st.2.1 st.2.2 rest
theorem vf_chunk (hr:Rm A 9) (h:VfOk g K V.CF V.CA b a) {fws s:List Nat} {st:VSt} (sz:AccSz st.2.1 (st.2.2++[(fws,s)])) (hl:st.1.length≤1000) (hsc:V.sc.length≤1000)
  (hP:P (.raw .none) ⟨loc,V.s (chunk V.maxlen V.sc st fws s) rest⟩):CL g A F (.ref b.fApp) [.raw (.ref V.fo),tx fws,tx s] ⟨loc,V.s st rest⟩ P:=by
 obtain ⟨lines,init,ls⟩:=st
 dsimp only at sz hl
 obtain ⟨c,pm,hf,-⟩:=h.app.at_
 refine (CLC_fnZ (n:=8) (xs:=["self","fws","string"]) hr hf (by decide) rfl (fun vs hv=>?_) (by rfl) (by rfl) fun L=>?_).cl
 ·match vs,hv with | [u1,u2,u3],_=>rfl
 ·have hk:FnEnv (fnFm (mkM 6 8 "_append_chunk" "_ValueFormatter._append_chunk" c pm .none .none []) L b.fApp):=fnEnv_mkM rfl
  have hfg:=h.acc.fg
  have hr':=hr.deeper (env:=callEnv (ckFd c pm) L b.fApp)
  have hlen:=sz.len
  obtain ⟨c1,pm1,ct1,cc1,hf1,-⟩:=h.acc.count.at_
  obtain ⟨c2,pm2,hf2,-⟩:=h.acc.push.at_
  have hlen1:ls.length + 1≤1000:=by rw [List.length_append] at hlen; exact hlen
  refine EXs_cons ?_
  refine EX_Expr ?_
  refine EV_MethFn hfg ?_
  refine EV_Attr hfg ?_
  refine EV_local hk (by rfl) ?_
  refine ⟨V.fo,V.dfo,V.CF,_,_,_,rfl,.tail _ (.tail _ (.head _)),.obj h.cls,h.no6,by rfl,by rfl,?_⟩
  refine ⟨V.ac,V.dac,V.CA,_,_,_,_,_,rfl,.head _,.lst h.acc.ops.lst,h.acc.push.find,h.acc.push.typ,by rfl,hf2,?_⟩
  refine EVs_cons ?_
  refine EV_local hk (by rfl) ?_
  refine EVs_cons ?_
  refine EV_local hk (by rfl) ?_
  refine EVs_nil ?_
  refine acc_push (ls:=ls) (Rm.le hr' (by decide)) h.acc .head (by omega) ?_
  refine ⟨trivial,?_⟩
  refine EXs_cons ?_
  refine EX_If ?_
  refine TR_Compare ?_
  refine EV_Call_flat ?_
  refine EV_builtin hk h.acc.len_ ?_
  refine ⟨_,rfl,rfl,?_⟩
  refine EVs_cons ?_
  refine EV_Attr hfg ?_
  refine EV_local hk (by rfl) ?_
  refine ⟨V.fo,V.dfo,V.CF,_,_,_,rfl,.tail _ (.tail _ (.head _)),.obj h.cls,h.no6,by rfl,by rfl,?_⟩
  refine EVs_nil ?_
  refine acc_len (Rm.le hr' (by decide)) h.acc (.head _) sz ?_
  refine EV_Attr hfg ?_
  refine EV_local hk (by rfl) ?_
  refine ⟨V.fo,V.dfo,V.CF,_,_,_,rfl,.tail _ (.tail _ (.head _)),.obj h.cls,h.no1,by rfl,by rfl,?_⟩
  refine c_gt_ii ?_
  refine TT_bool ?_
  unfold chunk at hP
  dsimp only at hP
  by_cases hp:V.maxlen < accLen init (ls++[(fws,s)])
  ·rw [if_pos hp] at hP
   rw [decide_eq_true hp,if_pos rfl]
   refine EXs_cons ?_
   refine EX_ForS ?_
   refine SRC_of ?_
   refine EV_Attr hfg ?_
   refine EV_local hk (by rfl) ?_
   refine ⟨V.fo,V.dfo,V.CF,_,_,_,rfl,.tail _ (.tail _ (.head _)),.obj h.cls,h.no4,by rfl,by rfl,?_⟩
   refine ⟨chars (ofL V.sc),IT_str (Rm.le hr' (by decide)),?_⟩
   rw [chars_ofL]
   refine ForP_ind (fun xs σ'=>∃ r:List Nat,xs=r.map (fun c=>tx [c])∧(∃ loc',σ'=⟨loc',V.z lines init (ls++[(fws,s)]) rest⟩∧Sub loc' [("self",.raw (.ref V.fo))])∧findS (ls++[(fws,s)]) r=findS (ls++[(fws,s)]) V.sc) ?_ ?_ _ _ ⟨_,rfl,⟨_,rfl,by walk_at "sub"⟩,rfl⟩
   ·rintro _ ⟨r,hx,⟨loc',rfl,hsub⟩,hfs⟩
    have hre:r=[]:=by cases r with | nil=>rfl | cons _ _=>cases hx
    subst hre
    rw [← hfs] at hP
    refine EXs_weak (Sub.weak' hsub rfl) ?_
    refine chunk_else hr' h sz hl fun loc'=>?_
    by_cases h0:0 < init
    ·refine ⟨[],_,if_pos h0,?_⟩
     simp only [findS,if_pos h0] at hP; exact hP
    ·refine ⟨[],_,if_neg h0,?_⟩
     simp only [findS,if_neg h0] at hP; exact hP
   ·rintro x xs _ ⟨r,hx,⟨loc',rfl,hsub⟩,hfs⟩
    cases r with
    | nil=>cases hx
    | cons ch r =>
     cases hx
     refine AS1_weak (Sub.weak' hsub rfl) (fun _ h=>h) ?_
     refine AS1_name hk ?_
     have hfs':findS (ls++[(fws,s)]) (ch :: r)=match findI (ls++[(fws,s)]) ch ((ls++[(fws,s)]).length - 1) with
      | some i=>some i
      | none=>findS (ls++[(fws,s)]) r:=rfl
     rw [hfs'] at hfs
     refine EXs_cons ?_
     refine EX_ForS ?_
     refine SRC_range (Rm.le hr' (by decide)) ?_
     refine EV_builtin hk h.range_ ?_
     refine ⟨rfl,?_⟩
     refine EVs_cons ?_
     refine EV_BinOp ?_
     refine EV_MethFn hfg ?_
     refine EV_Attr hfg ?_
     refine EV_local hk (by rfl) ?_
     refine ⟨V.fo,V.dfo,V.CF,_,_,_,rfl,.tail _ (.tail _ (.head _)),.obj h.cls,h.no6,by rfl,by rfl,?_⟩
     refine ⟨V.ac,V.dac,V.CA,_,_,_,_,_,rfl,.head _,.lst h.acc.ops.lst,h.acc.count.find,h.acc.count.typ,by rfl,hf1,?_⟩
     refine EVs_nil ?_
     refine acc_count (Rm.le hr' (by decide)) h.acc (.head _) ?_
     refine EV_int ?_
     refine sub_ii ?_
     refine EVs_cons ?_
     refine EV_int ?_
     refine EVs_cons ?_
     refine EV_Unary ?_
     refine EV_int ?_
     refine neg_i ?_
     refine EVs_nil ?_
     have hln:(((ls++[(fws,s)]).length:Nat):Int) - 1=(((ls++[(fws,s)]).length - 1:Nat):Int):=by rw [List.length_append]; simp
     refine ⟨_,_,_,.three _ _ _ (by decide) (PyProof.noPylong_small (by decide)),?_,?_⟩
     ·rw [hln]; exact small_down (by omega)
     rw [hln,rangeDown]
     refine chunk_inner rfl (Rm.le hr' (by decide)) h sz (fun hn=>?_) fun j loc'' hj hsub''=>?_
     ·rw [hn] at hfs
      exact ⟨_,Weak.refl,fun _ h=>h,r,rfl,⟨_,rfl,by walk_at "sub"⟩,hfs⟩
     ·rw [hj] at hfs
      refine EXs_cons ?_
      refine EX_Break ?_
      rw [← hfs] at hP
      refine EXs_weak (Sub.weak' hsub'' rfl) ?_
      have hjle:=findI_le hj
      refine chunk_end (Rm.le hr' (by decide)) h sz hl (by omega) fun loc'=>?_
      refine EXs_nil ?_
      exact ⟨[],_,rfl,hP⟩
  ·rw [if_neg hp] at hP
   rw [decide_eq_false hp,if_neg (by decide)]
   refine EXs_nil ?_
   refine EXs_nil ?_
   exact ⟨[],_,rfl,hP⟩
end SC3
section SC4
open PySem.W PySem.Builtin PySem.Builtin.ObjectAttr
variable {g:Gl} {A:Around} {F:Fm} {σ:AS} {K:Frag} {C CA:Addr} {a:AccA} {b:VfA} {P:PV→AS→Prop} {x dx:Addr} {loc:List (Str × PV)} {rest:List (Addr × MO)} {V:VfI} {lines:List (List Nat)} {init:Int} {ls:List (List Nat × List Nat)}
def partsOf (l:List Nat):List (List Nat):=if ((Rx.splitL l).getD 0 []).isEmpty then (Rx.splitL l).tail else [] :: Rx.splitL l
def pairsL:List (List Nat)→List (List Nat × List Nat)
 | a :: b :: r=>(a,b) :: pairsL r
 | _=>[]
theorem pairUp_map:∀ l:List (List Nat),pairUp (l.map tx)=(pairsL l).map pairPV
 | []=>rfl
 | [_]=>rfl
 | a :: b :: r=>by
  show PV.tup [tx a,tx b] :: pairUp (r.map tx)=pairPV (a,b) :: (pairsL r).map pairPV
  rw [pairUp_map r]
theorem splitGo_odd {x:Array Nat}:∀ (f st:Nat),∃ k,(Rx.splitGo x f st).length=2 * k + 1
 | 0,st=>⟨0,rfl⟩
 | f + 1,st=>by
  unfold Rx.splitGo
  cases Rx.nextWs x x.size (x.size - st) st with
  | none=>exact ⟨0,rfl⟩
  | some p =>
   obtain ⟨k,e⟩:=splitGo_odd (x:=x) f (p.1 + p.2)
   exact ⟨k + 1,by simp only [List.length_cons]; omega⟩
theorem piece_len {x:Array Nat} {b e:Nat}:(Rx.piece x b e).length≤x.size:=by
 unfold Rx.piece; rw [Array.length_toList,Array.size_extract]; omega
theorem splitGo_piece {x:Array Nat}:∀ (f st:Nat),∀ p∈Rx.splitGo x f st,p.length≤x.size
 | 0,st,p,hp=>by simp [Rx.splitGo] at hp; subst hp; exact piece_len
 | f + 1,st,p,hp=>by
  unfold Rx.splitGo at hp
  cases hn:Rx.nextWs x x.size (x.size - st) st with
  | none=>rw [hn] at hp; simp at hp; subst hp; exact piece_len
  | some q =>
   rw [hn] at hp
   simp only [List.mem_cons] at hp
   rcases hp with rfl | rfl | hp
   ·exact piece_len
   ·exact piece_len
   ·exact splitGo_piece f _ p hp
theorem partsOf_even (l:List Nat):∃ m,(partsOf l).length=2 * m:=by
 obtain ⟨k,e⟩:=splitGo_odd (x:=l.toArray) l.length 0
 have e':(Rx.splitL l).length=2 * k + 1:=e
 unfold partsOf
 split
 ·exact ⟨k,by rw [List.length_tail]; omega⟩
 ·exact ⟨k + 1,by rw [List.length_cons]; omega⟩
def chunks (maxlen:Int) (sc:List Nat) (st:VSt):List (List Nat × List Nat)→VSt
 | []=>st
 | p :: r=>chunks maxlen sc (chunk maxlen sc st p.1 p.2) r
def ChOk (maxlen:Int) (sc:List Nat) (st:VSt):List (List Nat × List Nat)→Prop
 | []=>True
 | p :: r=>AccSz st.2.1 (st.2.2++[p])∧st.1.length≤1000∧ChOk maxlen sc (chunk maxlen sc st p.1 p.2) r
def ascFor:Stmt:=hdS ((mB 6 7).drop 2)
theorem asc_for {L c:Addr} {pm:Value} {Q:Fl→AS→Prop} (hr:Rm A 9) (h:VfOk g K V.CF V.CA b a) (hsc:V.sc.length≤1000):∀ (ps:List (List Nat × List Nat)) (st:VSt) (loc:List (Str × PV)),ChOk V.maxlen V.sc st ps→loc.lookup ("self":Str)=some (.raw (.ref V.fo)) →
  (∀ loc',Q .next ⟨loc',V.s (chunks V.maxlen V.sc st ps) rest⟩) →
  ForZ g A (fnFm (mkM 6 7 "_ascii_split" "_ValueFormatter._ascii_split" c pm .none .none []) L b.fAsc) (forT ascFor) (forB ascFor) (forE ascFor) (ps.map pairPV) ⟨loc,V.s st rest⟩ Q
 | [],st,loc,hok,hself,hQ=>EXs_nil (hQ loc)
 | p :: r,st,loc,hok,hself,hQ=>by
  intro T
  obtain ⟨h1,h2,h3⟩:=hok
  obtain ⟨c1,pm1,hf1,-⟩:=h.app.at_
  have hk:FnEnv (fnFm (mkM 6 7 "_ascii_split" "_ValueFormatter._ascii_split" c pm .none .none []) L b.fAsc):=fnEnv_mkM rfl
  refine AS1_tup (Rm.le hr (by decide)) rfl ?_
  repeat walk_at "asg"
  refine EXs_cons ?_
  refine EX_Expr ?_
  refine EV_MethFn h.acc.fg ?_
  refine EV_local hk (lk_ne (lk_ne hself)) ?_
  refine ⟨V.fo,V.dfo,V.CF,_,_,_,_,_,rfl,.tail _ (.tail _ (.head _)),.obj h.cls,h.app.find,h.app.typ,by rfl,hf1,?_⟩
  refine EVs_cons ?_
  refine EV_local hk (lk_ne lk_eq) ?_
  refine EVs_cons ?_
  refine EV_local hk lk_eq ?_
  refine EVs_nil ?_
  refine vf_chunk (rest:=rest++T) hr h h1 h2 hsc ?_
  refine ⟨trivial,?_⟩
  refine EXs_nil ?_
  exact ⟨V.s (chunk V.maxlen V.sc st p.1 p.2) rest,rfl,asc_for hr h hsc r _ _ h3 (lk_ne (lk_ne hself)) hQ⟩
theorem vf_asc (hr:Rm A 10) (h:VfOk g K V.CF V.CA b a) {pat:Addr} (hre:g.Glob "twin_re_1_header" (.ref pat)) (hpat:Rx.PatOk g pat) (hsc:V.sc.length≤1000) {fws s:List Nat} {sp:List Nat} {st:VSt} (hlen:fws.length + s.length≤100000) (hok:ChOk V.maxlen V.sc st (pairsL (partsOf (fws++s))))
  (hP:P (.raw .none) ⟨loc,V.s (chunks V.maxlen V.sc st (pairsL (partsOf (fws++s)))) rest⟩):CL g A F (.ref b.fAsc) [.raw (.ref V.fo),tx fws,tx s,tx sp] ⟨loc,V.s st rest⟩ P:=by
 obtain ⟨c,pm,hf,-⟩:=h.asc.at_
 refine (CLC_fnZ (n:=9) (xs:=["self","fws","string","splitchars"]) hr hf (by decide) rfl (fun vs hv=>?_) (by rfl) (by rfl) fun L=>?_).cl
 ·match vs,hv with | [u1,u2,u3,u4],_=>rfl
 ·have hk:FnEnv (fnFm (mkM 6 7 "_ascii_split" "_ValueFormatter._ascii_split" c pm .none .none []) L b.fAsc):=fnEnv_mkM rfl
  have hr':=hr.deeper (env:=callEnv (mkM 6 7 "_ascii_split" "_ValueFormatter._ascii_split" c pm .none .none []) L b.fAsc)
  have hfg:=h.acc.fg
  have hcl:(Rx.splitL (fws++s)).length≤2 * (fws++s).length + 1:=Rx.splitGo_len (x:=(fws++s).toArray) (fws++s).length 0
  obtain ⟨k,hodd⟩:=splitGo_odd (x:=(fws++s).toArray) (fws++s).length 0
  have hodd':(Rx.splitL (fws++s)).length=2 * k + 1:=hodd
  rw [List.length_append] at hcl
  have hpl:∀ p∈Rx.splitL (fws++s),p.length≤100000:=fun p hp=>by
   have:=splitGo_piece (x:=(fws++s).toArray) _ _ p hp
   simp only [List.size_toArray,List.length_append] at this
   omega
  have hloop:∀ D (loc':List (Str × PV)),loc'.lookup ("self":Str)=some (.raw (.ref V.fo))→loc'.lookup ("parts":Str)=some (.raw (.ref D)) →
    EXs g (A.deeper (callEnv (mkM 6 7 "_ascii_split" "_ValueFormatter._ascii_split" c pm .none .none []) L b.fAsc)) (fnFm (mkM 6 7 "_ascii_split" "_ValueFormatter._ascii_split" c pm .none .none []) L b.fAsc) ((mB 6 7).drop 2) ⟨loc',(D,.list ((partsOf (fws++s)).map tx)) :: V.s st rest⟩
     fun fl σ'=>∃ pre z,σ'.zone=pre++z∧P (match fl with | .ret p=>p | _=>.raw .none) ⟨loc,z⟩:=by
   intro D loc' h1 h2
   refine EXs_weak (Weak.freeze (pre:=[]) (x:="parts") (D:=D) (ps:=(partsOf (fws++s)).map tx) h2) ?_
   refine EXs_cons ?_
   refine EX_ForZip (x:="parts") (ps:=(partsOf (fws++s)).map tx) hk (Rm.le hr' (by decide)) h.zip_ h.iter_ lk_eq ?_ ?_
   ·rw [List.length_map]; exact partsOf_even _
   ·rw [pairUp_map]
    refine asc_for hr' h hsc _ st _ hok (lk_ne h1) fun loc''=>?_
    refine EXs_nil ?_
    exact ⟨[],_,rfl,hP⟩
  refine EXs_cons ?_
  refine EX_Assign_Name hk ?_
  refine EV_Meth ?_
  refine EV_global hk hre ?_
  refine ⟨_,Rx.MT_split hpat,?_⟩
  refine EVs_cons ?_
  refine EV_BinOp ?_
  refine EV_local hk (by rfl) ?_
  refine EV_local hk (by rfl) ?_
  refine add_tt (by omega) ?_
  refine EVs_nil ?_
  refine Rx.CL_split hpat (by rw [List.length_append]; omega) fun D=>?_
  refine EXs_cons ?_
  refine EX_If ?_
  refine TR_plain ?_
  refine EV_Subscript ?_
  refine EV_local hk lk_eq ?_
  refine EV_int ?_
  have hne:Rx.splitL (fws++s)≠[]:=fun q=>by rw [q] at hodd'; simp at hodd'
  obtain ⟨p0,pr,hpp⟩:∃ p0 pr,Rx.splitL (fws++s)=p0 :: pr:=by
   cases q:Rx.splitL (fws++s) with
   | nil=>exact absurd q hne
   | cons a b=>exact ⟨a,b,rfl⟩
  have hp0:=hpl p0 (by rw [hpp]; simp)
  rw [hpp] at hcl
  have hcl':pr.length + 1≤2 * (fws.length + s.length) + 1:=hcl
  rw [hpp]
  refine IX_zD (.int 0) (.head _) (by decide) (by simp) (by simp; omega) ?_
  refine TT_str (l:=p0) (by omega) ?_
  have hpo:partsOf (fws++s)=if p0.isEmpty then pr else [] :: p0 :: pr:=by unfold partsOf; rw [hpp]; rfl
  cases he:p0.isEmpty with
  | false =>
   rw [he] at hpo
   refine EXs_cons ?_
   refine EX_SetSlice_z ?_
   refine EV_List ?_
   refine EVs_cons ?_
   refine EV_strL _ ?_ (by walk_at "lit")
   refine EVs_nil ⟨by simp,?_⟩
   refine EV_local hk lk_eq ?_
   refine PT_none ?_
   refine PT_some ?_
   refine EV_int ?_
   refine ⟨_,rfl,D,(p0 :: pr).map tx,[tx []],(D,.list (([] :: p0 :: pr).map tx)) :: V.s st rest,rfl,rfl,?_,by simp; omega,?_⟩
   ·have e:((p0 :: pr).map tx).take (slo ((p0 :: pr).map tx).length none)++[tx []]++((p0 :: pr).map tx).drop (max (slo ((p0 :: pr).map tx).length none) (shi ((p0 :: pr).map tx).length (some 0)))=([] :: p0 :: pr).map tx:=by
     have e1:shi ((p0 :: pr).map tx).length (some 0)=0:=by
      show clipAt ((p0 :: pr).map tx).length 0=0
      have:=clipAt_cast ((p0 :: pr).map tx).length 0
      rw [if_neg (by decide)] at this
      omega
     rw [e1]
     rfl
    rw [e]
    exact .head
   ·refine EXs_nil ?_
    have:=hloop D [("self",.raw (.ref V.fo)),("fws",tx fws),("string",tx s),("splitchars",tx sp),("parts",.raw (.ref D))] rfl rfl
    rw [hpo] at this
    exact this
  | true =>
   rw [he] at hpo
   refine EXs_cons ?_
   refine EX_Expr ?_
   refine EV_Meth ?_
   refine EV_local hk lk_eq ?_
   refine ⟨_,MT_pop (.head _),?_⟩
   refine EVs_cons ?_
   refine EV_int ?_
   refine EVs_nil ?_
   refine CL_pop0 (l:=pr.map tx) .head (by rw [List.length_map]; omega) ?_
   refine ⟨trivial,?_⟩
   refine EXs_nil ?_
   have:=hloop D [("self",.raw (.ref V.fo)),("fws",tx fws),("string",tx s),("splitchars",tx sp),("parts",.raw (.ref D))] rfl rfl
   rw [hpo] at this
   exact this
end SC4
section SC5
open PySem.W PySem.Builtin PySem.Builtin.ObjectAttr
variable {g:Gl} {A:Around} {F:Fm} {σ:AS} {K:Frag} {C CA:Addr} {a:AccA} {b:VfA} {P:PV→AS→Prop} {x dx:Addr} {loc:List (Str × PV)} {rest:List (Addr × MO)} {V:VfI} {lines:List (List Nat)} {init:Int} {ls:List (List Nat × List Nat)}
theorem vf_feed (hr:Rm A 11) (h:VfOk g K V.CF V.CA b a) {pat co dco:Addr} {attC:List (Str × PV)} (hre:g.Glob "twin_re_1_header" (.ref pat)) (hpat:Rx.PatOk g pat) (hsc:V.sc.length≤1000) {fws s:List Nat} {st:VSt} (hlen:fws.length + s.length≤100000) (hok:ChOk V.maxlen V.sc st (pairsL (partsOf (fws++s))))
  (hco:(co,.inst dco V.CF attC none)∈rest) (hne:attC.lookup ("header_encoding":Str)=some (.raw .none))
  (hP:P (.raw .none) ⟨loc,V.s (chunks V.maxlen V.sc st (pairsL (partsOf (fws++s)))) rest⟩):CL g A F (.ref b.fFeed) [.raw (.ref V.fo),tx fws,tx s,.raw (.ref co)] ⟨loc,V.s st rest⟩ P:=by
 obtain ⟨c,pm,hf,-⟩:=h.feed.at_
 refine (CLC_fnZ (n:=10) (xs:=["self","fws","string","charset"]) hr hf (by decide) rfl (fun vs hv=>?_) (by rfl) (by rfl) fun L=>?_).cl
 ·match vs,hv with | [u1,u2,u3,u4],_=>rfl
 ·have hk:FnEnv (fnFm (mkM 6 5 "feed" "_ValueFormatter.feed" c pm .none .none []) L b.fFeed):=fnEnv_mkM rfl
  have hr':=hr.deeper (env:=callEnv (mkM 6 5 "feed" "_ValueFormatter.feed" c pm .none .none []) L b.fFeed)
  have hfg:=h.acc.fg
  obtain ⟨c1,pm1,hf1,-⟩:=h.asc.at_
  refine EXs_cons ?_
  refine EX_If ?_
  refine TR_Compare ?_
  refine EV_Attr hfg ?_
  refine EV_local hk (by rfl) ?_
  refine ⟨co,dco,V.CF,attC,none,.raw .none,rfl,.tail _ (.tail _ (.tail _ hco)),.obj h.cls,h.no7,hne,by rfl,?_⟩
  refine EV_none ?_
  refine is_rr (by rfl) ?_
  refine TT_bool ?_
  show EXs _ _ _ _ _ _
  refine EXs_cons ?_
  refine EX_Expr ?_
  refine EV_MethFn hfg ?_
  refine EV_local hk (by rfl) ?_
  refine ⟨V.fo,V.dfo,V.CF,_,_,_,_,_,rfl,.tail _ (.tail _ (.head _)),.obj h.cls,h.asc.find,h.asc.typ,by rfl,hf1,?_⟩
  refine EVs_cons ?_
  refine EV_local hk (by rfl) ?_
  refine EVs_cons ?_
  refine EV_local hk (by rfl) ?_
  refine EVs_cons ?_
  refine EV_Attr hfg ?_
  refine EV_local hk (by rfl) ?_
  refine ⟨V.fo,V.dfo,V.CF,_,_,_,rfl,.tail _ (.tail _ (.head _)),.obj h.cls,h.no4,by rfl,by rfl,?_⟩
  refine EVs_nil ?_
  refine vf_asc hr' h hre hpat hsc hlen hok ?_
  refine ⟨trivial,?_⟩
  refine EXs_cons ?_
  refine EX_Return_none ?_
  exact ⟨[],_,rfl,hP⟩
theorem law_folded_spec {f:Addr} (hr:Rm A 12) (hf:Fn g 36 "_law_folded" f) (h:VfOk g K C CA b a) {pat:Addr} (hre:g.Glob "twin_re_1_header" (.ref pat)) (hpat:Rx.PatOk g pat) {text signs:List Nat} {width name:Int} (hname0:0≤name) (hname1:name≤1000) (hsc:signs.length≤1000) (hlen:text.length≤100000)
  (hok:ChOk width signs ([],name,[]) (pairsL (partsOf text)))
  (hend:let st:=chunks width signs ([],name,[]) (pairsL (partsOf text)); AccSz st.2.1 st.2.2∧(0 < accLen st.2.1 (nlLs st.2.2)→onlyWs st.2.1 (nlLs st.2.2)=false)∧st.1.length≤1000∧JoinFit [10] (nlLines st.1 st.2.1 st.2.2)∧(joinL [10] (nlLines st.1 st.2.1 st.2.2)).length≤1000000)
  (hP:let st:=chunks width signs ([],name,[]) (pairsL (partsOf text)); P (.lst ((Txt.split (ofL (joinL [10] (nlLines st.1 st.2.1 st.2.2))) (ofL [10])).map PV.str)) σ) :
  CL g A F (.ref f) [tx text,.int width,.int name,tx signs] σ P:=by
 obtain ⟨c,pm,hfa⟩:=hf.at_
 refine CL_fnE (n:=11) (xs:=["text","width","name","signs"]) hr hfa (by decide) rfl (fun vs hv=>?_) (by rfl) (by rfl) fun L=>?_
 ·match vs,hv with | [u1,u2,u3,u4],_=>rfl
 ·have hk:FnEnv (fnFm (mkF 36 "_law_folded" c pm) L f):=fnEnv_mkF rfl
  have hr':=hr.deeper (env:=callEnv (mkF 36 "_law_folded" c pm) L f)
  have hfg:=h.acc.fg
  obtain ⟨c1,pm1,hf1,-⟩:=h.feed.at_
  obtain ⟨c2,pm2,hf2,-⟩:=h.str_.at_
  refine EXs_cons ?_
  refine EX_Assign_Name hk ?_
  refine EV_Call_cls hfg h.calls ?_
  refine EV_global hk h.gVf ?_
  refine ⟨rfl,?_⟩
  refine EVs_cons ?_
  refine EV_int ?_
  refine EVs_cons ?_
  refine EV_int ?_
  refine EVs_cons ?_
  refine EV_strL _ ?_ (by walk_at "lit")
  refine EVs_cons ?_
  refine EV_strL _ ?_ (by walk_at "lit")
  refine EVs_nil ?_
  refine CL_new (fI:=b.fI) (n:=10) hr' hfg h.makes h.init.find h.init.typ fun A' co dco hA'=>?_
  refine vf_init (Rm.le hA' (by decide)) h (by simp) fun Lo0 ac0 dac0=>?_
  refine ⟨rfl,?_⟩
  refine EXs_cons ?_
  refine EX_Assign_Attr hfg ?_
  refine EV_none ?_
  refine EV_local hk lk_eq ?_
  refine ⟨co,dco,C,_,_,_,rfl,.obj h.cls,.tail (.tail .head),h.no7,Nat.le_of_ble_eq_true (by with_unfolding_all rfl),?_⟩
  refine EXs_cons ?_
  refine EX_Assign_Name hk ?_
  refine EV_Call_cls hfg h.calls ?_
  refine EV_global hk h.gVf ?_
  refine ⟨rfl,?_⟩
  refine EVs_cons ?_
  refine EV_local hk (by rfl) ?_
  refine EVs_cons ?_
  refine EV_local hk (by rfl) ?_
  refine EVs_cons ?_
  refine EV_strL _ ?_ (by walk_at "lit")
  refine EVs_cons ?_
  refine EV_local hk (by rfl) ?_
  refine EVs_nil ?_
  refine CL_new (fI:=b.fI) (n:=10) hr' hfg h.makes h.init.find h.init.typ fun A' fo dfo hA'=>?_
  refine vf_init (Rm.le hA' (by decide)) h (by simp) fun Lo ac dac=>?_
  refine ⟨rfl,?_⟩
  refine EXs_cons ?_
  refine EX_Expr ?_
  refine EV_MethFn hfg ?_
  refine EV_local hk lk_eq ?_
  refine ⟨fo,dfo,C,_,_,_,_,_,rfl,.tail _ (.tail _ (.head _)),.obj h.cls,h.feed.find,h.feed.typ,by rfl,hf1,?_⟩
  refine EVs_cons ?_
  refine EV_strL _ ?_ (by walk_at "lit")
  refine EVs_cons ?_
  refine EV_local hk (by rfl) ?_
  refine EVs_cons ?_
  refine EV_local hk (by rfl) ?_
  refine EVs_nil ?_
  refine vf_feed (V:=⟨fo,dfo,C,Lo,ac,dac,CA,width,[45,45],signs⟩) (st:=([],name,[])) (co:=co) (dco:=dco) hr' h hre hpat hsc (by simp; omega) hok (.tail _ (.tail _ (.head _))) (by rfl) ?_
  refine ⟨trivial,?_⟩
  refine EXs_cons ?_
  refine EX_Return ?_
  refine EV_Meth ?_
  refine EV_MethFn hfg ?_
  refine EV_local hk (by rfl) ?_
  refine ⟨fo,dfo,C,_,_,_,_,_,rfl,.tail _ (.tail _ (.head _)),.obj h.cls,h.str_.find,h.str_.typ,by rfl,hf2,?_⟩
  refine EVs_cons ?_
  refine EV_strL _ ?_ (by walk_at "lit")
  refine EVs_nil ?_
  obtain ⟨e1,e2,e3,e4,e5⟩:=hend
  refine vf_str (V:=⟨fo,dfo,C,Lo,ac,dac,CA,width,[45,45],signs⟩) (Rm.le hr' (by decide)) h e1 e2 e3 e4 ?_
  refine ⟨_,MT_split_s,?_⟩
  refine EVs_cons ?_
  refine EV_strL _ ?_ (by walk_at "lit")
  refine EVs_nil ?_
  refine CL_split_sep e5 (by simp) ?_
  exact Ends.mk [_,_,_,_,_,_] rfl hP
end SC5
section SC6
open PySem.W PySem.Builtin PySem.Builtin.ObjectAttr
variable {g:Gl} {A:Around} {F:Fm} {σ:AS} {P:PV→AS→Prop} {loc:List (Str × PV)}
theorem buffer_spec {f:Addr} (hr:Rm A 1) (hf:Fn g 9 "_buffer" f) (hty:g.Blt "type" (.type "type")) (hby:g.Blt "bytes" (.type "bytes")) {b:Array UInt8} (h:P (.byt b) σ):CL g A F (.ref f) [.byt b] σ P:=by
 obtain ⟨c,pm,hfa⟩:=hf.at_
 refine CL_fnE (n:=0) (xs:=["data"]) hr hfa (by decide) rfl (fun vs hv=>?_) (by rfl) (by rfl) fun L=>?_
 ·match vs,hv with | [u],_=>rfl
 ·have hk:FnEnv (fnFm (mkF 9 "_buffer" c pm) L f):=fnEnv_mkF rfl
  refine EXs_cons ?_
  refine EX_Assign_Name hk ?_
  refine EV_Call_flat ?_
  refine EV_builtin hk hty ?_
  refine ⟨_,rfl,rfl,?_⟩
  repeat walk_at "st"
  refine CL_type_b ?_
  refine EXs_cons ?_
  refine EX_If ?_
  refine TR_Compare ?_
  refine EV_local hk (by rfl) ?_
  refine EV_builtin hk hby ?_
  refine is_rr (by rfl) ?_
  refine TT_bool ?_
  show EXs _ _ _ _ _ _
  repeat walk_at "st"
  exact Ends.mk [] rfl h
theorem truth_spec {f:Addr} (hr:Rm A 1) (hf:Fn g 10 "_truth" f) (hty:g.Blt "type" (.type "type")) (hbo:g.Blt "bool" (.type "bool")) {b:Bool} (h:P (.raw (.bool b)) σ):CL g A F (.ref f) [.raw (.bool b)] σ P:=by
 obtain ⟨c,pm,hfa⟩:=hf.at_
 refine CL_fnE (n:=0) (xs:=["x"]) hr hfa (by decide) rfl (fun vs hv=>?_) (by rfl) (by rfl) fun L=>?_
 ·match vs,hv with | [u],_=>rfl
 ·have hk:FnEnv (fnFm (mkF 10 "_truth" c pm) L f):=fnEnv_mkF rfl
  refine EXs_cons ?_
  refine EX_Assign_Name hk ?_
  refine EV_Call_flat ?_
  refine EV_builtin hk hty ?_
  refine ⟨_,rfl,rfl,?_⟩
  repeat walk_at "st"
  refine CL_type_bool ?_
  refine EXs_cons ?_
  refine EX_If ?_
  refine TR_BoolOp ?_
  refine TRs_cons ?_
  refine TR_Compare ?_
  refine EV_local hk (by rfl) ?_
  refine EV_none ?_
  refine is_rr (by cases b <;> rfl) ?_
  refine TT_bool ?_
  rw [show (Value.bool b == Value.none)=false from by cases b <;> rfl]
  refine TRs_cons ?_
  refine TR_Compare ?_
  refine EV_local hk (by rfl) ?_
  refine EV_builtin hk hbo ?_
  refine is_rr (by rfl) ?_
  refine TT_bool ?_
  show EXs _ _ _ _ _ _
  refine EXs_cons ?_
  refine EX_Return ?_
  refine EV_IfExp ?_
  refine TR_plain ?_
  refine EV_local hk (by rfl) ?_
  refine TT_bool ?_
  cases b with
  | true=>refine EV_bool ?_; exact Ends.mk [] rfl h
  | false=>refine EV_bool ?_; exact Ends.mk [] rfl h
theorem EV_glob_b {x:Str} {pos:Pos} {b:Array UInt8} {t:Tok} (hk:FnEnv F) (hg:g.Glob x (.bytes b t)) (h:P (.byt b) σ) (hx:F.env.kindOf x=some .globalImplicit:=by with_unfolding_all rfl) (hd:(x == ("__debug__":Str))=false:=by decide):EV g A F (.Name x pos) σ P:=fun s S Q E k =>
 raw_glob S.old hk.kind hk.gl hg (k _ _ σ s h S (.byt _ _) .refl) hx hd
theorem mask {n k:Nat}:Builtin.bitAnd (n:Int) ((2 ^ k - 1:Nat):Int)=((n % 2 ^ k:Nat):Int):=by
 rw [PyProof.Rows.bitAnd_pp (by omega) (by omega)]
 show ((n &&& (2 ^ k - 1):Nat):Int)=_
 rw [Nat.and_two_pow_sub_one_eq_mod]
theorem or_low {a b:Nat} (hb:b < 256):Builtin.bitOr ((a:Int) * 2 ^ (8:Int).toNat) (b:Int)=((a * 256 + b:Nat):Int):=by
 have e1:((a:Int) * 2 ^ (8:Int).toNat)=((a * 256:Nat):Int):=by
  rw [show (8:Int).toNat=8 from rfl]; push_cast; rfl
 rw [e1,PyProof.Rows.bitOr_and,PyProof.Rows.bitAnd_pp (by omega) (by omega)]
 show (((a * 256:Nat):Int)) + (b:Int) - (((a * 256) &&& b:Nat):Int)=_
 have h1:=PyProof.Rows.nat_or_add_and (a * 256) b
 have h2:=Nat.shiftLeft_add_eq_or_of_lt (a:=a) (i:=8) hb
 rw [Nat.shiftLeft_eq] at h2
 rw [show (2:Nat) ^ 8=256 from rfl] at h2
 omega
def b64c (i:Nat):Nat:=(tab64++[43,47]).getD i 0
def emit (lc:Nat):Nat→Nat→List Nat→List Nat × Nat
 | 0,lb,out=>(out,lb)
 | f + 1,lb,out=>if 6≤lb then emit lc f (lb - 6) (out++[b64c (lc / 2 ^ (lb - 6) % 64)]) else (out,lb)
theorem emit_stop {lc f lb:Nat} {out:List Nat} (h:¬ 6≤lb):emit lc f lb out=(out,lb):=by
 cases f with
 | zero=>rfl
 | succ f=>unfold emit; rw [if_neg h]
abbrev BSt:=List Nat × Nat × Nat
def b2aStep (st:BSt) (b:Nat):BSt :=
 ((emit ((st.2.2 * 256 + b) % 65536) 2 (st.2.1 + 8) st.1).1,(emit ((st.2.2 * 256 + b) % 65536) 2 (st.2.1 + 8) st.1).2,(st.2.2 * 256 + b) % 65536)
def b2aFin (st:BSt):List Nat:=st.1++(if st.2.1=2 then [b64c (st.2.2 % 4 * 16),61,61] else if st.2.1=4 then [b64c (st.2.2 % 16 * 4),61] else [])
def b2a (octets:List Nat):List Nat:=b2aFin (octets.foldl b2aStep ([],0,0))
theorem emit_len {lc:Nat}:∀ (f lb:Nat) (out:List Nat),(emit lc f lb out).1.length≤out.length + f
 | 0,lb,out=>Nat.le_refl _
 | f + 1,lb,out=>by
  unfold emit
  split
  ·have:=emit_len (lc:=lc) f (lb - 6) (out++[b64c (lc / 2 ^ (lb - 6) % 64)])
   simp at this; omega
  ·show out.length≤_; omega
theorem b64c_lt {i:Nat} (h:i < 64):b64c i < 256:=by
 have:∀ j:Fin 64,b64c j.1 < 256:=by decide
 exact this ⟨i,h⟩
def b64Bytes:Array UInt8:=((tab64++[43,47]).map (fun (n:Nat)=>n.toUInt8)).toArray
def hdS' (l:List Stmt):Stmt:=l.headD (.Pass ⟨0,0,0,0⟩)
def forB':Stmt→List Stmt
 | .For _ _ b _ _=>b
 | _=>[]
structure B2aOk (g:Gl) (f fb ft:Addr):Prop where
 glob:g.Glob "b2a_base64" (.ref f)
 at_:∃ c pm kd,FnAt g f { mkF 12 "b2a_base64" c pm with kwdefaults:=.ref kd } (fB 12)
 buf:Fn g 9 "_buffer" fb
 tru:Fn g 10 "_truth" ft
 tab:∃ t,g.Glob "_B64" (.bytes b64Bytes t)
 ty:g.Blt "type" (.type "type")
 by_:g.Blt "bytes" (.type "bytes")
 bo:g.Blt "bool" (.type "bool")
theorem b2a_inner {L c kd f:Addr} {pm:Value} {fb ft D:Addr} {Q:Fl→AS→Prop} {z:List (Addr × MO)} (h:B2aOk g f fb ft) {lc k:Nat} {data:PV} (hlc:lc < 65536) {lb0:Nat} (hlb0:lb0≤4) {out0:List Nat} (hl0:out0.length≤1000000 - 10) (hb0:∀ x∈out0,x < 256)
  (hQ:∀ out lb,(out,lb)=emit lc 2 (lb0 + 8) out0→lb < 6→(∀ x∈out,x < 256)→Q .next ⟨[("data",data),("newline",.raw (.bool false)),("bin_data",data),("out",.raw (.ref D)),("leftbits",.int (lb:Nat)),("leftchar",.int (lc:Nat)),("b",.int (k:Nat))],(D,.list (out.map fun (n:Nat)=>.int n)) :: z⟩) :
  EX g A (fnFm { mkF 12 "b2a_base64" c pm with kwdefaults:=.ref kd } L f) (hdS' ((forB' (hdS' ((fB 12).drop 5))).drop 2)) ⟨[("data",data),("newline",.raw (.bool false)),("bin_data",data),("out",.raw (.ref D)),("leftbits",.int ((lb0 + 8:Nat):Int)),("leftchar",.int (lc:Nat)),("b",.int (k:Nat))],(D,.list (out0.map fun (n:Nat)=>.int n)) :: z⟩ Q:=by
 have hk:FnEnv (fnFm { mkF 12 "b2a_base64" c pm with kwdefaults:=.ref kd } L f):=⟨rfl,rfl,rfl⟩
 obtain ⟨tt,htab⟩:=h.tab
 refine EX_While_ind (fun n σ'=>∃ (out:List Nat) (lb e:Nat),n=lb∧lb≤12∧lb < 6 * e + 6∧out.length + e≤1000000 - 8∧(∀ x∈out,x < 256)∧emit lc e lb out=emit lc 2 (lb0 + 8) out0∧σ'=⟨[("data",data),("newline",.raw (.bool false)),("bin_data",data),("out",.raw (.ref D)),("leftbits",.int (lb:Nat)),("leftchar",.int (lc:Nat)),("b",.int (k:Nat))],(D,.list (out.map fun (n:Nat)=>.int n)) :: z⟩) (lb0 + 8) ⟨out0,lb0 + 8,2,rfl,by omega,by omega,by omega,hb0,rfl,rfl⟩ ?_
 rintro n _ ⟨out,lb,e,hn,h1,h2,h3,h4,h5,rfl⟩
 have hn':lb=n:=hn.symm
 subst hn'
 refine TR_Compare ?_
 refine EV_local hk (by rfl) ?_
 refine EV_int ?_
 refine c_ge_ii ?_
 refine TT_bool ?_
 by_cases h6:6≤lb
 ·rw [decide_eq_true (show (6:Int)≤(lb:Int) by omega),if_pos rfl]
  cases e with
  | zero=>omega
  | succ e =>
   unfold emit at h5
   rw [if_pos h6] at h5
   have hi:lc / 2 ^ (lb - 6) % 64 < 64:=Nat.mod_lt _ (by decide)
   refine EXs_cons ?_
   refine EX_Expr ?_
   refine EV_append ?_
   refine EV_local hk (by rfl) ?_
   refine ⟨D,out.map fun (n:Nat)=>.int n,rfl,.head _,?_⟩
   refine EV_Subscript ?_
   refine EV_glob_b hk htab ?_
   refine EV_BinOp ?_
   refine EV_BinOp ?_
   refine EV_local hk (by rfl) ?_
   refine EV_BinOp ?_
   refine EV_local hk (by rfl) ?_
   refine EV_int ?_
   refine sub_ii ?_
   refine shr_ii (by omega) ?_
   refine EV_int ?_
   refine and_ii ?_
   have e1:((lc:Int).fdiv (2 ^ ((lb:Int) - 6).toNat))=((lc / 2 ^ (lb - 6):Nat):Int):=by
    rw [show ((lb:Int) - 6).toNat=lb - 6 by omega]
    have:=fdivN lc (2 ^ (lb - 6))
    rw [← this,Int.natCast_pow]
    rfl
   rw [e1,show (63:Int)=((2 ^ 6 - 1:Nat):Int) from rfl,mask]
   have hb1:((lc / 2 ^ (lb - 6) % 2 ^ 6:Nat):Int) < (((tab64++[43,47]).map (fun (n:Nat)=>n.toUInt8)).length:Int):=by
    show ((lc / 2 ^ (lb - 6) % 64:Nat):Int) < ((64:Nat):Int)
    omega
   show IX g A _ _ _ (.byt ((tab64++[43,47]).map (fun (n:Nat)=>n.toUInt8)).toArray) _ _ _
   refine IX_b (b:=(tab64++[43,47]).map (fun (n:Nat)=>n.toUInt8)) (i:=((lc / 2 ^ (lb - 6) % 2 ^ 6:Nat):Int)) (Int.natCast_nonneg _) hb1 (by decide) (hs:=?hs) ?_
   case hs=>intro _ _; with_unfolding_all rfl
   have e2:((((tab64++[43,47]).map (fun (n:Nat)=>n.toUInt8)).getD ((lc / 2 ^ (lb - 6) % 2 ^ 6:Nat):Int).toNat 0).toNat:Nat)=b64c (lc / 2 ^ (lb - 6) % 64):=by
    have:∀ j:Fin 64,(((tab64++[43,47]).map (fun (n:Nat)=>n.toUInt8)).getD j.1 0).toNat=b64c j.1:=by decide
    exact this ⟨_,hi⟩
   rw [e2]
   refine ⟨out.map fun (n:Nat)=>.int n,_,.head,by rw [List.length_map]; omega,?_⟩
   refine ⟨trivial,?_⟩
   repeat walk_at "st"
   refine ⟨lb - 6,_,by omega,Weak.refl,out++[b64c (lc / 2 ^ (lb - 6) % 64)],lb - 6,e,rfl,by omega,by omega,by simp; omega,?_,h5,?_⟩
   ·intro x hx
    rcases List.mem_append.mp hx with q | q
    ·exact h4 x q
    ·rw [List.mem_singleton] at q; subst q; exact b64c_lt hi
   ·rw [List.map_append,show ((lb - 6:Nat):Int)=(lb:Int) - 6 by omega]
    rfl
 ·rw [decide_eq_false (show ¬ (6:Int)≤(lb:Int) by omega),if_neg (by decide)]
  refine EXs_nil ?_
  rw [emit_stop h6] at h5
  exact hQ out lb h5 (by omega) h4
theorem emit_par {lc:Nat}:∀ (f lb:Nat) (out:List Nat),(emit lc f lb out).2 % 2=lb % 2
 | 0,lb,out=>rfl
 | f + 1,lb,out=>by
  unfold emit
  split
  ·rw [emit_par f (lb - 6)]; omega
  ·rfl
abbrev b2aFd (c kd:Addr) (pm:Value):FuncData:={ mkF 12 "b2a_base64" c pm with kwdefaults:=.ref kd }
theorem b2a_spec {f fb ft:Addr} (hr:Rm A 2) (h:B2aOk g f fb ft) {ns:List Nat} (hns:∀ n∈ns,n < 256) (hlen:ns.length≤10000) (hP:P (.byt ((b2a ns).map fun n=>n.toUInt8).toArray) σ) :
  CLCk g A F (.ref f) [.byt (ns.map fun n=>n.toUInt8).toArray] [("newline",.bool false)] σ P:=by
 obtain ⟨c,pm,kd,hfa⟩:=h.at_
 obtain ⟨cb,pmb,hfb⟩:=h.buf.at_
 obtain ⟨ct,pmt,hft⟩:=h.tru.at_
 refine CLCk_fnZ (n:=1) (xs:=["data","newline"]) (qs:=[.byt (ns.map fun n=>n.toUInt8).toArray,.raw (.bool false)]) hr hfa (by decide) rfl (fun s vs S hvs=>?_) (by rfl) (by rfl) fun L=>?_
 ·cases hvs with | cons hv hvs=>cases hvs; exact ⟨_,.cons hv (.cons (.raw _) .nil),.of_eq (by rfl)⟩
 ·have hk:FnEnv (fnFm (b2aFd c kd pm) L f):=⟨rfl,rfl,rfl⟩
  have hr':=hr.deeper (env:=callEnv (b2aFd c kd pm) L f)
  have hoct:octs (ns.map fun n=>n.toUInt8).toArray=ns.map fun (k:Nat)=>.int (k:Int):=by
   unfold octs
   rw [List.map_map]
   refine List.map_congr_left fun n hn=>?_
   show PV.int _=PV.int _
   have:=hns n hn
   rw [show n.toUInt8.toNat=n from by simp [Nat.toUInt8]; omega]
  generalize hdat:PV.byt (ns.map fun n=>n.toUInt8).toArray=data at *
  refine EXs_cons ?_
  refine EX_Assign_Name hk ?_
  refine EV_Call_fn hfb ?_
  refine EV_global hk h.buf.glob ?_
  refine ⟨rfl,?_⟩
  repeat walk_at "st"
  rw [← hdat]
  refine buffer_spec hr' h.buf h.ty h.by_ ?_
  rw [hdat]
  refine EXs_cons ?_
  refine EX_Assign_Name hk ?_
  refine EV_Call_fn hft ?_
  refine EV_global hk h.tru.glob ?_
  refine ⟨rfl,?_⟩
  repeat walk_at "st"
  refine truth_spec hr' h.tru h.ty h.bo ?_
  refine EXs_cons ?_
  refine EX_Assign_Name hk ?_
  refine EV_List_new ?_
  refine EVs_nil ⟨by simp,fun D=>?_⟩
  repeat walk_at "st"
  refine EX_ForS ?_
  refine SRC_of ?_
  refine EV_local hk (by rfl) ?_
  rw [← hdat]
  refine ⟨_,IT_byt (Rm.le hr' (by decide)),?_⟩
  rw [hdat,hoct]
  refine ForP_ind (fun xs σ'=>∃ (r:List Nat) (st:BSt),xs=r.map (fun (k:Nat)=>.int (k:Int))∧(∀ k∈r,k < 256)∧st.2.1≤4∧st.2.1 % 2=0∧st.2.2 < 65536∧st.1.length + 4 * r.length≤900000∧(∀ x∈st.1,x < 256)∧r.foldl b2aStep st=ns.foldl b2aStep ([],0,0) ∧
   σ'=⟨[("data",data),("newline",.raw (.bool false)),("bin_data",data),("out",.raw (.ref D)),("leftbits",.int (st.2.1:Nat)),("leftchar",.int (st.2.2:Nat))],(D,.list (st.1.map fun (n:Nat)=>.int n)) :: σ.zone⟩) ?_ ?_ _ _ ⟨ns,([],0,0),rfl,hns,by decide,by decide,by decide,by simp; omega,by simp,rfl,rfl⟩
  ·rintro _ ⟨r,⟨out,lb,lc⟩,hx,-,hlb,hpar,hlc,hol,hob,hfold,rfl⟩
   have hre:r=[]:=by cases r with | nil=>rfl | cons _ _=>cases hx
   subst hre
   have hb2:b2a ns=b2aFin (out,lb,lc):=by unfold b2a; rw [← hfold]; rfl
   rw [hb2] at hP
   dsimp only at hlb hpar hlc hol hob ⊢
   obtain ⟨tt,htab⟩:=h.tab
   have hol':out.length≤900000:=by simp at hol; omega
   have hget:∀ j:Nat,j < 64→((((tab64++[43,47]).map (fun (n:Nat)=>n.toUInt8)).getD j 0).toNat:Nat)=b64c j:=fun j hj=>by
    have:∀ j:Fin 64,(((tab64++[43,47]).map (fun (n:Nat)=>n.toUInt8)).getD j.1 0).toNat=b64c j.1:=by decide
    exact this ⟨j,hj⟩
   have hfin:∀ out':List Nat,(∀ x∈out',x < 256)→out'.length≤1000000→b2aFin (out,lb,lc)=out' →
     EXs g (A.deeper (callEnv (b2aFd c kd pm) L f)) (fnFm (b2aFd c kd pm) L f) ((fB 12).drop 7) ⟨[("data",data),("newline",.raw (.bool false)),("bin_data",data),("out",.raw (.ref D)),("leftbits",.int (lb:Nat)),("leftchar",.int (lc:Nat))],(D,.list (out'.map fun (n:Nat)=>.int n)) :: σ.zone⟩
      fun fl σ'=>∃ pre z,σ'.zone=pre++z∧P (match fl with | .ret p=>p | _=>.raw .none) ⟨σ.loc,z⟩:=by
    intro out' h1 h2 h3
    rw [h3] at hP
    refine EXs_cons ?_
    refine EX_If ?_
    refine TR_plain ?_
    refine EV_local hk (by rfl) ?_
    refine TT_bool ?_
    show EXs _ _ _ _ _ _
    refine EXs_nil ?_
    refine EXs_cons ?_
    refine EX_Return ?_
    refine EV_Call_flat ?_
    refine EV_builtin hk h.by_ ?_
    refine ⟨_,rfl,rfl,?_⟩
    repeat walk_at "st"
    refine CL_bytes_z (ns:=out') (Rm.le hr' (by decide)) (.head _) h1 (by omega) ?_
    exact ⟨[_],_,rfl,hP⟩
   have happ:∀ (out':List Nat) (e:Expr) (p1 p2 p3:Pos) (loc':List (Str × PV)) (j:Nat) (Q:PV→AS→Prop),loc'.lookup ("out":Str)=some (.raw (.ref D))→True:=fun _ _ _ _ _ _ _ _ _=>trivial
   refine EXs_nil ?_
   refine EXs_cons ?_
   refine EX_If ?_
   refine TR_Compare ?_
   refine EV_local hk (by rfl) ?_
   refine EV_int ?_
   refine c_eq_ii ?_
   refine TT_bool ?_
   by_cases h2:lb=2
   ·subst h2
    rw [show (((2:Nat):Int) == 2)=true from rfl,if_pos rfl]
    have hj:lc % 4 * 16 < 64:=by omega
    refine EXs_cons ?_
    refine EX_Expr ?_
    refine EV_append ?_
    refine EV_local hk (by rfl) ?_
    refine ⟨D,out.map fun (n:Nat)=>.int n,rfl,.head _,?_⟩
    refine EV_Subscript ?_
    refine EV_glob_b hk htab ?_
    refine EV_BinOp ?_
    refine EV_BinOp ?_
    refine EV_local hk (by rfl) ?_
    refine EV_int ?_
    refine and_ii ?_
    rw [show (3:Int)=((2 ^ 2 - 1:Nat):Int) from rfl,mask]
    refine EV_int ?_
    refine shl_ii (by decide) (by decide) (by have:lc % 2 ^ 2 < 4:=Nat.mod_lt _ (by decide); omega) ?_
    rw [show ((lc % 2 ^ 2:Nat):Int) * 2 ^ (4:Int).toNat=((lc % 4 * 16:Nat):Int) from by rw [show (4:Int).toNat=4 from rfl]; push_cast; rfl]
    refine IX_b (b:=(tab64++[43,47]).map (fun (n:Nat)=>n.toUInt8)) (i:=((lc % 4 * 16:Nat):Int)) (Int.natCast_nonneg _) (by show ((lc % 4 * 16:Nat):Int) < ((64:Nat):Int); omega) (by decide) (hs:=?hs1) ?_
    case hs1=>intro _ _; with_unfolding_all rfl
    rw [show (((lc % 4 * 16:Nat):Int)).toNat=lc % 4 * 16 from rfl,hget _ hj]
    refine ⟨out.map fun (n:Nat)=>.int n,_,.head,by rw [List.length_map]; omega,?_⟩
    refine ⟨trivial,?_⟩
    refine EXs_cons ?_
    refine EX_Expr ?_
    refine EV_append ?_
    refine EV_local hk (by rfl) ?_
    refine ⟨D,_,rfl,.head _,?_⟩
    refine EV_int ?_
    refine ⟨_,_,.head,by simp; omega,?_⟩
    refine ⟨trivial,?_⟩
    refine EXs_cons ?_
    refine EX_Expr ?_
    refine EV_append ?_
    refine EV_local hk (by rfl) ?_
    refine ⟨D,_,rfl,.head _,?_⟩
    refine EV_int ?_
    refine ⟨_,_,.head,by simp; omega,?_⟩
    refine ⟨trivial,?_⟩
    refine EXs_nil ?_
    have:=hfin (out++[b64c (lc % 4 * 16),61,61]) (fun x hx=>by
     rcases List.mem_append.mp hx with q | q
     ·exact hob x q
     ·simp at q; rcases q with rfl | rfl
      ·exact b64c_lt hj
      ·decide) (by simp; omega) (by unfold b2aFin; rfl)
    rw [show (out++[b64c (lc % 4 * 16),61,61]).map (fun (n:Nat)=>PV.int n)=((out.map fun (n:Nat)=>PV.int n)++[.int (b64c (lc % 4 * 16):Nat)])++[.int 61]++[.int 61] from by simp] at this
    exact this
   ·rw [show (((lb:Nat):Int) == 2)=false from beq_eq_false_iff_ne.mpr (by omega),if_neg (by decide)]
    refine EXs_cons ?_
    refine EX_If ?_
    refine TR_Compare ?_
    refine EV_local hk (by rfl) ?_
    refine EV_int ?_
    refine c_eq_ii ?_
    refine TT_bool ?_
    by_cases h4:lb=4
    ·subst h4
     rw [show (((4:Nat):Int) == 4)=true from rfl,if_pos rfl]
     have hj:lc % 16 * 4 < 64:=by omega
     refine EXs_cons ?_
     refine EX_Expr ?_
     refine EV_append ?_
     refine EV_local hk (by rfl) ?_
     refine ⟨D,out.map fun (n:Nat)=>.int n,rfl,.head _,?_⟩
     refine EV_Subscript ?_
     refine EV_glob_b hk htab ?_
     refine EV_BinOp ?_
     refine EV_BinOp ?_
     refine EV_local hk (by rfl) ?_
     refine EV_int ?_
     refine and_ii ?_
     rw [show (15:Int)=((2 ^ 4 - 1:Nat):Int) from rfl,mask]
     refine EV_int ?_
     refine shl_ii (by decide) (by decide) (by have:lc % 2 ^ 4 < 16:=Nat.mod_lt _ (by decide); omega) ?_
     rw [show ((lc % 2 ^ 4:Nat):Int) * 2 ^ (2:Int).toNat=((lc % 16 * 4:Nat):Int) from by rw [show (2:Int).toNat=2 from rfl]; push_cast; rfl]
     refine IX_b (b:=(tab64++[43,47]).map (fun (n:Nat)=>n.toUInt8)) (i:=((lc % 16 * 4:Nat):Int)) (Int.natCast_nonneg _) (by show ((lc % 16 * 4:Nat):Int) < ((64:Nat):Int); omega) (by decide) (hs:=?hs2) ?_
     case hs2=>intro _ _; with_unfolding_all rfl
     rw [show (((lc % 16 * 4:Nat):Int)).toNat=lc % 16 * 4 from rfl,hget _ hj]
     refine ⟨out.map fun (n:Nat)=>.int n,_,.head,by rw [List.length_map]; omega,?_⟩
     refine ⟨trivial,?_⟩
     refine EXs_cons ?_
     refine EX_Expr ?_
     refine EV_append ?_
     refine EV_local hk (by rfl) ?_
     refine ⟨D,_,rfl,.head _,?_⟩
     refine EV_int ?_
     refine ⟨_,_,.head,by simp; omega,?_⟩
     refine ⟨trivial,?_⟩
     refine EXs_nil ?_
     refine EXs_nil ?_
     have:=hfin (out++[b64c (lc % 16 * 4),61]) (fun x hx=>by
      rcases List.mem_append.mp hx with q | q
      ·exact hob x q
      ·simp at q; rcases q with rfl | rfl
       ·exact b64c_lt hj
       ·decide) (by simp; omega) (by unfold b2aFin; rfl)
     rw [show (out++[b64c (lc % 16 * 4),61]).map (fun (n:Nat)=>PV.int n)=((out.map fun (n:Nat)=>PV.int n)++[.int (b64c (lc % 16 * 4):Nat)])++[.int 61] from by simp] at this
     exact this
    ·rw [show (((lb:Nat):Int) == 4)=false from beq_eq_false_iff_ne.mpr (by omega),if_neg (by decide)]
     refine EXs_nil ?_
     refine EXs_nil ?_
     exact hfin out hob (by omega) (by unfold b2aFin; dsimp only; rw [if_neg h2,if_neg h4,List.append_nil])
  ·rintro x xs _ ⟨r,⟨out,lb,lc⟩,hx,hrb,hlb,hpar,hlc,hol,hob,hfold,rfl⟩
   cases r with
   | nil=>cases hx
   | cons k r =>
    cases hx
    dsimp only at hlb hpar hlc hol hob hfold ⊢
    have hkb:=hrb k List.mem_cons_self
    refine AS1_name hk ?_
    refine EXs_cons ?_
    refine EX_Assign_Name hk ?_
    refine EV_BinOp ?_
    refine EV_BinOp ?_
    refine EV_BinOp ?_
    refine EV_local hk (by rfl) ?_
    refine EV_int ?_
    refine shl_ii (by decide) (by decide) (by omega) ?_
    refine EV_local hk (by rfl) ?_
    refine or_ii ?_
    refine EV_int ?_
    refine and_ii ?_
    rw [or_low hkb,show (65535:Int)=((2 ^ 16 - 1:Nat):Int) from rfl,mask]
    refine EXs_cons ?_
    refine EX_Assign_Name hk ?_
    refine EV_BinOp ?_
    refine EV_local hk (by rfl) ?_
    refine EV_int ?_
    refine add_ii ?_
    refine EXs_cons ?_
    refine b2a_inner (lc:=(lc * 256 + k) % 65536) (k:=k) (lb0:=lb) (out0:=out) (D:=D) h (Nat.mod_lt _ (by decide)) hlb (by simp at hol; omega) hob fun out' lb' he hl6 hb'=>?_
    refine EXs_nil ?_
    have hl':=emit_len (lc:=(lc * 256 + k) % 65536) 2 (lb + 8) out
    have hp':=emit_par (lc:=(lc * 256 + k) % 65536) 2 (lb + 8) out
    rw [← he] at hl' hp'
    dsimp only at hl' hp'
    refine ⟨_,Sub.weak' (loc':=[("data",data),("newline",.raw (.bool false)),("bin_data",data),("out",.raw (.ref D)),("leftbits",.int (lb':Nat)),("leftchar",.int (((lc * 256 + k) % 65536:Nat):Int))]) (by walk_at "sub") rfl,fun _ h=>h,r,(out',lb',(lc * 256 + k) % 65536),rfl,fun k hk=>hrb k (List.mem_cons_of_mem _ hk),by show lb'≤4; omega,by show lb' % 2=0; omega,Nat.mod_lt _ (by decide),by simp at hol ⊢; omega,hb',?_,rfl⟩
    rw [← hfold,List.foldl_cons]
    congr 1
    unfold b2aStep
    dsimp only
    rw [← he]
end SC6
section SC7
open PySem.W PySem.Builtin PySem.Builtin.ObjectAttr
variable {g:Gl} {A:Around} {F:Fm} {σ:AS} {P:PV→AS→Prop} {loc:List (Str × PV)}
theorem transTab_get {a b:UInt8} {n:Nat} {c:UInt8} (hn:n < 256):(By.transTab [43,47] [a,b]).getD n c=if n=47 then b else if n=43 then a else n.toUInt8:=by
 unfold By.transTab By.transTab0
 show ((((Array.range 256).map (fun (n:Nat)=>n.toUInt8)).setIfInBounds 43 a).setIfInBounds 47 b).getD n c=_
 rw [Array.getD_eq_getD_getElem?,Array.getElem?_setIfInBounds,Array.getElem?_setIfInBounds]
 by_cases h47:n=47
 ·subst h47; simp
 ·rw [if_neg (fun q=>h47 q.symm),if_neg h47]
  by_cases h43:n=43
  ·subst h43; simp
  ·rw [if_neg (fun q=>h43 q.symm),if_neg h43]
   rw [Array.getElem?_map,Array.getElem?_range]
   simp [hn]
def encN (a b n:Nat):Nat:=if n=47 then b else if n=43 then a else n
theorem b64_map {a b:Nat} (ha:a < 256) (hb:b < 256) {l:List Nat} (hl:∀ n∈l,n < 256):((l.map fun (n:Nat)=>n.toUInt8).toArray.map fun c=>(By.transTab [43,47] [a.toUInt8,b.toUInt8]).getD c.toNat c)=((l.map (encN a b)).map fun (n:Nat)=>n.toUInt8).toArray:=by
 rw [List.map_toArray,List.map_map,List.map_map]
 congr 1
 refine List.map_congr_left fun n hn=>?_
 have h1:=hl n hn
 show (By.transTab [43,47] [a.toUInt8,b.toUInt8]).getD n.toUInt8.toNat n.toUInt8=(encN a b n).toUInt8
 have e:n.toUInt8.toNat=n:=by simp [Nat.toUInt8]; omega
 rw [e,transTab_get h1]
 unfold encN
 split
 ·rfl
 ·split <;> rfl
theorem b2a_lt {ns:List Nat}:∀ n∈b2a ns,n < 256:=by
 have he:∀ (lc f lb:Nat) (out:List Nat),(∀ x∈out,x < 256)→∀ x∈(emit lc f lb out).1,x < 256:=by
  intro lc f
  induction f with
  | zero=>intro lb out h; exact h
  | succ f ih =>
   intro lb out h
   unfold emit
   split
   ·refine ih _ _ fun x hx=>?_
    rcases List.mem_append.mp hx with q | q
    ·exact h x q
    ·rw [List.mem_singleton] at q; subst q; exact b64c_lt (Nat.mod_lt _ (by decide))
   ·exact h
 have hs:∀ (l:List Nat) (st:BSt),(∀ x∈st.1,x < 256)→∀ x∈(l.foldl b2aStep st).1,x < 256:=by
  intro l
  induction l with
  | nil=>intro st h; exact h
  | cons b r ih=>intro st h; exact ih _ (he _ _ _ _ h)
 intro n hn
 unfold b2a b2aFin at hn
 rcases List.mem_append.mp hn with q | q
 ·exact hs ns ([],0,0) (by simp) n q
 ·split at q
  ·simp at q; rcases q with rfl | rfl
   ·exact b64c_lt (by omega)
   ·decide
  ·split at q
   ·simp at q; rcases q with rfl | rfl
    ·exact b64c_lt (by omega)
    ·decide
   ·cases q
structure B64Ok (g:Gl) (f:Addr):Prop where
 glob:g.Glob "b64encode" (.ref f)
 at_:∃ c pm T,FnAt g f { mkF 14 "b64encode" c pm with defaults:=.ref T } (fB 14)∧DfltAt g { mkF 14 "b64encode" c pm with defaults:=.ref T } #[.none]
theorem b64_spec {f f2 fb ft:Addr} (hr:Rm A 3) (h:B64Ok g f) (h2:B2aOk g f2 fb ft) (hlenB:g.Blt "len" (.builtin "len")) {ns:List Nat} (hns:∀ n∈ns,n < 256) (hlen:ns.length≤10000) (hbl:(b2a ns).length≤1000000) {a b:Nat} (ha:a < 256) (hb:b < 256)
  (hP:P (.byt (((b2a ns).map (encN a b)).map fun (n:Nat)=>n.toUInt8).toArray) σ) :
  CL g A F (.ref f) [.byt (ns.map fun (n:Nat)=>n.toUInt8).toArray,.byt #[a.toUInt8,b.toUInt8]] σ P:=by
 obtain ⟨c,pm,T,hfa,hd⟩:=h.at_
 obtain ⟨c2,pm2,kd2,hfa2⟩:=h2.at_
 refine (CLCk_fnZ (n:=2) (xs:=["s","altchars"]) (qs:=[.byt (ns.map fun (n:Nat)=>n.toUInt8).toArray,.byt #[a.toUInt8,b.toUInt8]]) (kw:=[]) hr hfa (by decide) rfl (fun s vs S hvs=>?_) (by rfl) (by rfl) fun L=>?_).clc.cl
 ·refine ⟨vs,hvs,?_⟩
  match vs,hvs.length with
  | [v,w],_=>exact hd.binds S (by rfl) (by rfl)
 ·have hk:FnEnv (fnFm { mkF 14 "b64encode" c pm with defaults:=.ref T } L f):=⟨rfl,rfl,rfl⟩
  have hr':=hr.deeper (env:=callEnv { mkF 14 "b64encode" c pm with defaults:=.ref T } L f)
  refine EXs_cons ?_
  refine EX_Assign_Name hk ?_
  refine By.EV_Call_kw hfa2 ?_
  refine EV_global hk h2.glob ?_
  refine ⟨rfl,?_⟩
  refine EVs_cons ?_
  refine EV_local hk (by rfl) ?_
  refine EVs_nil ?_
  refine EV_bool ?_
  refine ⟨_,rfl,?_⟩
  refine b2a_spec hr' h2 hns hlen ?_
  refine EXs_cons ?_
  refine EX_If ?_
  refine TR_Compare ?_
  refine EV_local hk (by rfl) ?_
  refine EV_none ?_
  refine isNot_b_none ?_
  refine TT_bool ?_
  show EXs _ _ _ _ _ _
  refine EXs_cons ?_
  refine EX_Assert ?_
  refine TR_Compare ?_
  refine EV_Call_flat ?_
  refine EV_builtin hk hlenB ?_
  refine ⟨_,rfl,rfl,?_⟩
  refine EVs_cons ?_
  refine EV_local hk (by rfl) ?_
  refine EVs_nil ?_
  refine CL_len_b (by simp) ?_
  refine EV_int ?_
  refine c_eq_ii ?_
  refine TT_bool ?_
  refine ⟨rfl,?_⟩
  refine EXs_cons ?_
  refine EX_Return ?_
  refine EV_Meth ?_
  refine EV_local hk (by rfl) ?_
  refine ⟨_,By.MT_translate,?_⟩
  refine EVs_cons ?_
  refine By.EV_maketrans ?_
  refine EV_builtin hk h2.by_ ?_
  refine ⟨rfl,?_⟩
  refine EVs_cons ?_
  refine EV_bytes ?_
  refine EVs_cons ?_
  refine EV_local hk (by rfl) ?_
  refine EVs_nil ?_
  refine By.CL_maketrans rfl ?_
  refine EVs_nil ?_
  refine By.CL_translate (By.transTab_size _ _) (by simp; omega) ?_
  refine ⟨[],_,rfl,?_⟩
  rw [show By.transTab (#[43,47]:Array UInt8).toList (#[a.toUInt8,b.toUInt8]:Array UInt8).toList=By.transTab [43,47] [a.toUInt8,b.toUInt8] from rfl]
  rw [b64_map ha hb b2a_lt]
  exact hP
end SC7
section SC8
open PySem.W PySem.Builtin PySem.Builtin.ObjectAttr
variable {g:Gl} {A:Around} {F:Fm} {σ:AS} {P:PV→AS→Prop} {loc:List (Str × PV)}
structure EscOk (g:Gl) (f d:Addr):Prop where
 fn:Fn g 20 "escape" f
 map:g.Glob "_special_chars_map" (.ref d)
 tab:SpecTab g d
 isi:g.Blt "isinstance" (.builtin "isinstance")
 str_:g.Blt "str" (.type "str")
theorem escape_spec {f d:Addr} (hr:Rm A 1) (h:EscOk g f d) {c:Nat} (hc:c < 128) (hP:P (tx (escL c)) σ):CL g A F (.ref f) [tx [c]] σ P:=by
 obtain ⟨c',pm,hfa⟩:=h.fn.at_
 refine CL_fnE (n:=0) (xs:=["pattern"]) hr hfa (by decide) rfl (fun vs hv=>?_) (by rfl) (by rfl) fun L=>?_
 ·match vs,hv with | [u],_=>rfl
 ·have hk:FnEnv (fnFm (mkF 20 "escape" c' pm) L f):=fnEnv_mkF rfl
  refine EXs_cons ?_
  refine EX_If ?_
  refine TR_plain ?_
  refine EV_Call_flat ?_
  refine EV_builtin hk h.isi ?_
  refine ⟨_,rfl,rfl,?_⟩
  refine EVs_cons ?_
  refine EV_local hk (by rfl) ?_
  refine EVs_cons ?_
  refine EV_builtin hk h.str_ ?_
  refine EVs_nil ?_
  refine CL_isinst_str ?_
  refine TT_bool ?_
  show EXs _ _ _ _ _ _
  refine EXs_cons ?_
  refine EX_Return ?_
  refine EV_Meth ?_
  refine EV_local hk (by rfl) ?_
  refine ⟨_,MT_of slot_tr type_tr,?_⟩
  refine EVs_cons ?_
  refine EV_global hk h.map ?_
  refine EVs_nil ?_
  refine CL_translate hr.deeper h.tab hc ?_
  exact Ends.mk [] rfl hP
abbrev It:=Option (List Nat)
def itPV (star:Addr):It→PV
 | none=>.raw (.ref star)
 | some l=>tx l
def scan (pat:List Nat):Nat→Nat→Nat
 | 0,j=>j
 | f + 1,j=>if j < pat.length∧pat.getD j 0≠93 then scan pat f (j + 1) else j
def setTxt (stuff:List Nat):List Nat:=if stuff.getD 0 0=33 then [94]++stuff.drop 1 else if stuff.getD 0 0=94∨stuff.getD 0 0=91 then [92]++stuff else stuff
def setAt (pat:List Nat) (i:Nat):Nat:=if pat.getD (i + 1) 0=33 then i + 2 else i + 1
def setEnd (pat:List Nat) (i:Nat):Nat:=scan pat pat.length (setAt pat i)
def stuffOf (pat:List Nat) (i:Nat):List Nat:=(pat.drop (i + 1)).take (setEnd pat i - (i + 1))
def setOk (pat:List Nat) (i:Nat):Bool:=decide (setAt pat i < pat.length) && decide (pat.getD (setAt pat i) 0≠93) && decide (setEnd pat i < pat.length) && decide (pat.getD (setEnd pat i) 0=93) && decide (45∉stuffOf pat i) && decide (92∉stuffOf pat i) && Rx.none2 (stuffOf pat i) && decide (stuffOf pat i≠[]) && decide (stuffOf pat i≠[33])
 && (Builtin.Str.occurrences (ofL (stuffOf pat i)) (ofL [92]) 0 (ofL (stuffOf pat i)).length ((ofL (stuffOf pat i)).length + 1)).isEmpty
def trGo (pat:List Nat):Nat→Nat→List It→Option (List It)
 | 0,_,_=>none
 | f + 1,i,res =>
  if i < pat.length then
   if pat.getD i 0=42 then (if res.getLast?=some none then none else trGo pat f (i + 1) (res++[none]))
   else if pat.getD i 0=63 then none
   else if pat.getD i 0=91 then (if setOk pat i then trGo pat f (setEnd pat i + 1) (res++[some ([91]++setTxt (stuffOf pat i)++[93])]) else none)
   else if pat.getD i 0 < 128 then trGo pat f (i + 1) (res++[some (escL (pat.getD i 0))]) else none
  else if i=pat.length then some res else none
theorem slo_nat {n a:Nat} (h:a≤n):slo n (some (a:Int))=a:=by
 show clipAt n (a:Int)=a
 have:=clipAt_cast n (a:Int)
 rw [if_neg (by omega)] at this
 omega
theorem shi_nat {n a:Nat} (h:a≤n):shi n (some (a:Int))=a:=slo_nat h
theorem sl_mid {α:Type} {l:List α} {a b:Nat} (ha:a≤l.length) (hb:b≤l.length):sl l (some (a:Int)) (some (b:Int))=(l.drop a).take (b - a):=by
 unfold sl; rw [slo_nat ha,shi_nat hb]
theorem scan_stop {pat:List Nat} {f j:Nat} (h:¬ (j < pat.length∧pat.getD j 0≠93)):scan pat f j=j:=by
 cases f with
 | zero=>rfl
 | succ f=>unfold scan; rw [if_neg h]
abbrev trB (pat:List Nat) (star D m:Addr) (i:Nat):List (Str × PV):=[("pat",tx pat),("STAR",.raw (.ref star)),("QUESTION_MARK",tx [46]),("res",.raw (.ref D)),("add",.raw (.ref m)),("i",.int (i:Nat)),("n",.int (pat.length:Nat))]
abbrev trZ (star D m:Addr) (res:List It) (z:List (Addr × MO)):List (Addr × MO):=(m,.obj (boundAppend D)) :: (D,.list (res.map (itPV star))) :: z
abbrev trJ (pat:List Nat) (star D m:Addr) (i j:Nat):List (Str × PV):=[("pat",tx pat),("STAR",.raw (.ref star)),("QUESTION_MARK",tx [46]),("res",.raw (.ref D)),("add",.raw (.ref m)),("i",.int (i:Nat)),("n",.int (pat.length:Nat)),("c",tx [91]),("j",.int (j:Nat))]
theorem ls_snoc' {α:Type} (l:List α):l=[]∨∃ r e,l=r++[e]:=by
 rcases List.eq_nil_or_concat l with h | ⟨r,e,h⟩
 ·exact .inl h
 ·exact .inr ⟨r,e,by simpa using h⟩
structure TrOk (g:Gl) (f fe d pat2:Addr):Prop where
 glob:g.Glob "_translate" (.ref f)
 at_:∃ c pm,FnAt g f (mkF 22 "_translate" c pm) (fB 22)∧∃ Pt,CodeTab g c Pt
 esc:EscOk g fe d
 re:g.Glob "twin_re_1_fnmatch" (.ref pat2)
 pat2:Rx.Pat2Ok g pat2
 bm:BmOk g
 len:g.Blt "len" (.builtin "len")
theorem tr_spec {f fe d pat2 star:Addr} (hr:Rm A 2) (h:TrOk g f fe d pat2) {pat:List Nat} {out:List It} (hp:pat.length≤1000) (htr:trGo pat (pat.length + 1) 0 []=some out) (hstar:(star,.obj bareObj)∈σ.zone)
  (hP:∀ D,P (.raw (.ref D)) ⟨σ.loc,(D,.list (out.map (itPV star))) :: σ.zone⟩):CL g A F (.ref f) [tx pat,.raw (.ref star),tx [46]] σ P:=by
 obtain ⟨c,pm,hfa,Pt,T⟩:=h.at_
 obtain ⟨ce,pme,hfe⟩:=h.esc.fn.at_
 refine (CLC_fnZ (n:=1) (xs:=["pat","STAR","QUESTION_MARK"]) hr hfa (by decide) rfl (fun vs hv=>?_) (by rfl) (by rfl) fun L=>?_).cl
 ·match vs,hv with | [u,v,w],_=>rfl
 ·have hk:FnEnv (fnFm (mkF 22 "_translate" c pm) L f):=fnEnv_mkF rfl
  have hr':=hr.deeper (env:=callEnv (mkF 22 "_translate" c pm) L f)
  refine EXs_cons ?_
  refine EX_Assign_Name hk ?_
  refine EV_List_new ?_
  refine EVs_nil ⟨by simp,fun D=>?_⟩
  refine EXs_cons ?_
  refine EX_Assign_Name hk ?_
  refine EV_boundAppend ?_
  refine EV_local hk (by rfl) ?_
  refine ⟨D,_,rfl,.head _,fun m=>?_⟩
  refine EXs_cons ?_
  refine EX_Assign_swapped (names:=["i","n"]) (Rm.le hr' (by decide)) ?_
  refine EV_Tuple ?_
  refine EVs_cons ?_
  refine EV_int ?_
  refine EVs_cons ?_
  refine EV_Call_flat ?_
  refine EV_builtin hk h.len ?_
  refine ⟨_,rfl,rfl,?_⟩
  refine EVs_cons ?_
  refine EV_local hk (by rfl) ?_
  refine EVs_nil ?_
  refine CL_len_t (by omega) ?_
  refine EVs_nil ?_
  repeat walk_at "st"
  refine ⟨_,rfl,rfl,?_⟩
  repeat walk_at "asg"
  refine EXs_weak (σ':=⟨trB pat star D m 0,trZ star D m [] σ.zone⟩) (Sub.weak' (by walk_at "sub") rfl) ?_
  refine EXs_cons ?_
  refine EX_While_ind (fun f σ'=>∃ (i:Nat) (res:List It),trGo pat f i res=some out∧res.length + f≤3000∧σ'=⟨trB pat star D m i,trZ star D m res σ.zone⟩) (pat.length + 1) ⟨0,[],htr,by simp; omega,rfl⟩ ?_
  rintro k0 _ ⟨i,res,ht,hres,rfl⟩
  cases k0 with
  | zero=>cases ht
  | succ k =>
  unfold trGo at ht
  refine TR_Compare ?_
  refine EV_local hk (by rfl) ?_
  refine EV_local hk (by rfl) ?_
  refine c_lt_ii ?_
  refine TT_bool ?_
  by_cases hi:i < pat.length
  ·rw [if_pos hi] at ht
   rw [decide_eq_true (show (i:Int) < (pat.length:Int) by omega),if_pos rfl]
   refine EXs_cons ?_
   refine EX_Assign_Name hk ?_
   refine EV_Subscript ?_
   refine EV_local hk (by rfl) ?_
   refine EV_local hk (by rfl) ?_
   refine IX_tD (by omega) (by omega) (by omega) ?_
   refine EXs_cons ?_
   refine EX_Assign_Name hk ?_
   refine EV_BinOp ?_
   refine EV_local hk (by rfl) ?_
   refine EV_int ?_
   refine add_ii ?_
   rw [show ((i:Int) + 1)=((i + 1:Nat):Int) by omega,Int.toNat_natCast]
   refine EXs_cons ?_
   refine EX_If ?_
   refine TR_Compare ?_
   refine EV_local hk (by rfl) ?_
   refine EV_strL _ ?_ (by walk_at "lit")
   refine c_eq_tt ?_
   refine TT_bool ?_
   by_cases h42:pat.getD i 0=42
   ·rw [if_pos h42] at ht
    rw [h42]
    show EXs _ _ _ _ _ _
    have hlast:res.getLast?≠some none:=fun q=>by rw [if_pos q] at ht; cases ht
    rw [if_neg hlast] at ht
    have hfin:∀ loc',Sub loc' [("pat",tx pat),("STAR",PV.raw (.ref star)),("QUESTION_MARK",tx [46]),("res",.raw (.ref D)),("add",.raw (.ref m)),("i",.int ((i + 1:Nat):Int)),("n",.int (pat.length:Nat))]→∃ m' σ₃,m' < k + 1∧Weak g (fnFm (mkF 22 "_translate" c pm) L f) ⟨loc',(m,.obj (boundAppend D)) :: (D,.list (res.map (itPV star)++[.raw (.ref star)])) :: σ.zone⟩ σ₃∧∃ (i:Nat) (res:List It),trGo pat m' i res=some out∧res.length + m'≤3000∧σ₃=⟨trB pat star D m i,trZ star D m res σ.zone⟩:=fun loc' hsub =>
     ⟨k,⟨trB pat star D m (i + 1),trZ star D m (res++[none]) σ.zone⟩,by omega,Sub.weak' hsub (by simp [itPV]),i + 1,res++[none],ht,by simp; omega,rfl⟩
    refine EXs_cons ?_
    refine EX_If ?_
    refine TR_BoolOp ?_
    refine TRs_cons ?_
    refine TR_Not ?_
    refine TR_plain ?_
    refine EV_local hk (by rfl) ?_
    refine TT_z (l:=res.map (itPV star)) (.tail _ (.head _)) (by rw [List.length_map]; omega) ?_
    rcases ls_snoc' res with hre | ⟨r0,e0,hre⟩
    ·subst hre
     show EXs _ _ _ _ _ _
     refine EXs_cons ?_
     refine EX_Expr ?_
     refine EV_Call_obj ?_
     refine EV_local hk (by rfl) ?_
     refine ⟨m,D,rfl,?_⟩
     refine EVs_cons ?_
     refine EV_local hk (by rfl) ?_
     refine EVs_nil ?_
     refine ⟨.head _,CL_bound (.head _) (.tail .head) (by simp) ?_⟩
     refine ⟨trivial,?_⟩
     refine EXs_nil ?_
     refine EXs_nil ?_
     refine EXs_nil ?_
     exact hfin _ (by walk_at "sub")
    ·subst hre
     have he0:e0≠none:=fun q=>hlast (by rw [q]; simp)
     obtain ⟨l0,rfl⟩:∃ l0,e0=some l0:=by cases e0 with | none=>exact absurd rfl he0 | some l0=>exact ⟨l0,rfl⟩
     have hb:(!(!((r0++[some l0]).map (itPV star)).isEmpty))=false:=by simp
     rw [hb]
     show TRs _ _ _ _ _ _ _
     refine TRs_cons ?_
     refine TR_Compare ?_
     refine EV_Subscript ?_
     refine EV_local hk (by rfl) ?_
     refine EV_Unary ?_
     refine EV_int ?_
     refine neg_i ?_
     refine IX_zLast (tx []) (.tail _ (.head _)) (by simp) (by simp at hres ⊢; omega) ?_
     have hg:((r0++[some l0]).map (itPV star)).getD (((r0++[some l0]).map (itPV star)).length - 1) (tx [])=tx l0:=by simp [itPV]
     rw [hg]
     refine EV_local hk (by rfl) ?_
     refine isNot_t_ref ?_
     refine TT_bool ?_
     show EXs _ _ _ _ _ _
     refine EXs_cons ?_
     refine EX_Expr ?_
     refine EV_Call_obj ?_
     refine EV_local hk (by rfl) ?_
     refine ⟨m,D,rfl,?_⟩
     refine EVs_cons ?_
     refine EV_local hk (by rfl) ?_
     refine EVs_nil ?_
     refine ⟨.head _,CL_bound (.head _) (.tail .head) (by simp at hres ⊢; omega) ?_⟩
     refine ⟨trivial,?_⟩
     refine EXs_nil ?_
     refine EXs_nil ?_
     refine EXs_nil ?_
     exact hfin _ (by walk_at "sub")
   ·rw [if_neg h42] at ht
    rw [decide_eq_false (show ¬ [pat.getD i 0]=[42] from fun q=>h42 (List.cons.inj q).1)]
    show EXs _ _ _ _ _ _
    by_cases h63:pat.getD i 0=63
    ·rw [if_pos h63] at ht; cases ht
    rw [if_neg h63] at ht
    refine EXs_cons ?_
    refine EX_If ?_
    refine TR_Compare ?_
    refine EV_local hk (by rfl) ?_
    refine EV_strL _ ?_ (by walk_at "lit")
    refine c_eq_tt ?_
    refine TT_bool ?_
    rw [decide_eq_false (show ¬ [pat.getD i 0]=[63] from fun q=>h63 (List.cons.inj q).1)]
    show EXs _ _ _ _ _ _
    refine EXs_cons ?_
    refine EX_If ?_
    refine TR_Compare ?_
    refine EV_local hk (by rfl) ?_
    refine EV_strL _ ?_ (by walk_at "lit")
    refine c_eq_tt ?_
    refine TT_bool ?_
    by_cases h91:pat.getD i 0=91
    ·rw [if_pos h91] at ht
     by_cases hset:setOk pat i=true
     ·rw [if_pos hset] at ht
      rw [h91]
      show EXs _ _ _ _ _ _
      unfold setOk at hset
      simp only [Bool.and_eq_true,decide_eq_true_eq] at hset
      obtain ⟨⟨⟨⟨⟨⟨⟨⟨⟨s1,s2⟩,s3⟩,s4⟩,s5⟩,s6⟩,s7⟩,s8⟩,s9⟩,s10⟩:=hset
      have hat:setAt pat i=if pat.getD (i + 1) 0=33 then i + 2 else i + 1:=rfl
      have hi1:i + 1 < pat.length:=by rw [hat] at s1; split at s1 <;> omega
      have hatl:i + 1≤setAt pat i:=by rw [hat]; split <;> omega
      refine EXs_cons ?_
      refine EX_Assign_Name hk ?_
      refine EV_local hk (by rfl) ?_
      refine EXs_cons ?_
      refine J.mono (P:=fun fl σ'=>fl=Fl.next∧∃ loc',σ'=⟨loc',trZ star D m res σ.zone⟩∧Sub loc' (trJ pat star D m (i + 1) (setAt pat i))) ?_ ?_
      ·refine EX_If ?_
       refine TR_BoolOp ?_
       refine TRs_cons ?_
       refine TR_Compare ?_
       refine EV_local hk (by rfl) ?_
       refine EV_local hk (by rfl) ?_
       refine c_lt_ii ?_
       refine TT_bool ?_
       rw [decide_eq_true (show ((i + 1:Nat):Int) < (pat.length:Int) by omega)]
       show TRs _ _ _ _ _ _ _
       refine TRs_cons ?_
       refine TR_Compare ?_
       refine EV_Subscript ?_
       refine EV_local hk (by rfl) ?_
       refine EV_local hk (by rfl) ?_
       refine IX_tD (by omega) (by omega) (by omega) ?_
       rw [Int.toNat_natCast]
       refine EV_strL _ ?_ (by walk_at "lit")
       refine c_eq_tt ?_
       refine TT_bool ?_
       by_cases h33:pat.getD (i + 1) 0=33
       ·rw [h33]
        show TRs _ _ _ _ _ _ _
        refine TRs_nil ?_
        show EXs _ _ _ _ _ _
        refine EXs_cons ?_
        refine EX_Assign_Name hk ?_
        refine EV_BinOp ?_
        refine EV_local hk (by rfl) ?_
        refine EV_int ?_
        refine add_ii ?_
        rw [show (((i + 1:Nat):Int) + 1)=((setAt pat i:Nat):Int) from by rw [hat,if_pos h33]; omega]
        refine EXs_nil ?_
        exact ⟨rfl,_,rfl,by walk_at "sub"⟩
       ·rw [decide_eq_false (show ¬ [pat.getD (i + 1) 0]=[33] from fun q=>h33 (List.cons.inj q).1)]
        show EXs _ _ _ _ _ _
        refine EXs_nil ?_
        have e:setAt pat i=i + 1:=by rw [hat,if_neg h33]
        rw [e]
        exact ⟨rfl,_,rfl,by walk_at "sub"⟩
      rintro _ _ ⟨rfl,loc1,rfl,hsub1⟩
      refine EXs_weak (Sub.weak' hsub1 rfl) ?_
      refine EXs_cons ?_
      refine EX_If ?_
      refine TR_BoolOp ?_
      refine TRs_cons ?_
      refine TR_Compare ?_
      refine EV_local hk (by rfl) ?_
      refine EV_local hk (by rfl) ?_
      refine c_lt_ii ?_
      refine TT_bool ?_
      rw [decide_eq_true (show ((setAt pat i:Nat):Int) < (pat.length:Int) by omega)]
      show TRs _ _ _ _ _ _ _
      refine TRs_cons ?_
      refine TR_Compare ?_
      refine EV_Subscript ?_
      refine EV_local hk (by rfl) ?_
      refine EV_local hk (by rfl) ?_
      refine IX_tD (by omega) (by omega) (by omega) ?_
      rw [Int.toNat_natCast]
      refine EV_strL _ ?_ (by walk_at "lit")
      refine c_eq_tt ?_
      refine TT_bool ?_
      rw [decide_eq_false (show ¬ [pat.getD (setAt pat i) 0]=[93] from fun q=>s2 (List.cons.inj q).1)]
      show EXs _ _ _ _ _ _
      refine EXs_nil ?_
      refine EXs_cons ?_
      refine EX_While_ind (fun f σ'=>∃ j:Nat,scan pat f j=setEnd pat i∧pat.length≤j + f∧j≤pat.length∧σ'=⟨trJ pat star D m (i + 1) j,trZ star D m res σ.zone⟩) pat.length ⟨setAt pat i,rfl,by omega,by omega,rfl⟩ ?_
      rintro f' _ ⟨j,hsc,hjf,hjl,rfl⟩
      refine TR_BoolOp ?_
      refine TRs_cons ?_
      refine TR_Compare ?_
      refine EV_local hk (by rfl) ?_
      refine EV_local hk (by rfl) ?_
      refine c_lt_ii ?_
      refine TT_bool ?_
      have hstop:∀ (hj:¬ (j < pat.length∧pat.getD j 0≠93)),j=setEnd pat i:=fun hj=>by rw [scan_stop hj] at hsc; exact hsc
      have hgo:∀ (hj:j < pat.length∧pat.getD j 0≠93),∃ f2,f'=f2 + 1∧scan pat f2 (j + 1)=setEnd pat i:=fun hj=>by
       cases f' with
       | zero=>exact absurd hj.1 (by omega)
       | succ f2=>exact ⟨f2,rfl,by unfold scan at hsc; rw [if_pos hj] at hsc; exact hsc⟩
      by_cases hjn:j < pat.length
      ·rw [decide_eq_true (show ((j:Nat):Int) < (pat.length:Int) by omega)]
       show TRs _ _ _ _ _ _ _
       refine TRs_cons ?_
       refine TR_Compare ?_
       refine EV_Subscript ?_
       refine EV_local hk (by rfl) ?_
       refine EV_local hk (by rfl) ?_
       refine IX_tD (by omega) (by omega) (by omega) ?_
       rw [Int.toNat_natCast]
       refine EV_strL _ ?_ (by walk_at "lit")
       refine c_ne_tt ?_
       refine TT_bool ?_
       by_cases h93:pat.getD j 0=93
       ·rw [h93]
        have hje:=hstop (fun q=>q.2 h93)
        show EXs _ _ _ _ _ _
        refine EXs_nil ?_
        subst hje
        have hsl:(stuffOf pat i).length≤1000:=by unfold stuffOf; rw [List.length_take,List.length_drop]; omega
        refine EXs_cons ?_
        refine EX_If ?_
        refine TR_Compare ?_
        refine EV_local hk (by rfl) ?_
        refine EV_local hk (by rfl) ?_
        refine c_ge_ii ?_
        refine TT_bool ?_
        rw [decide_eq_false (show ¬ (pat.length:Int)≤((setEnd pat i:Nat):Int) by omega)]
        show EXs _ _ _ _ _ _
        refine EXs_cons ?_
        refine EX_Assign_Name hk ?_
        refine EV_SubSlice ?_
        refine EV_local hk (by rfl) ?_
        refine PT_some ?_
        refine EV_local hk (by rfl) ?_
        refine ⟨_,rfl,?_⟩
        refine PT_some ?_
        refine EV_local hk (by rfl) ?_
        refine ⟨_,rfl,?_⟩
        refine SLC_t (by omega) ?_
        rw [sl_mid (by omega) (by omega),show (pat.drop (i + 1)).take (setEnd pat i - (i + 1))=stuffOf pat i from rfl]
        generalize hst:stuffOf pat i=stuff at *
        refine EXs_cons ?_
        refine EX_If ?_
        refine TR_Compare ?_
        refine EV_strL _ ?_ (by walk_at "lit")
        refine EV_local hk (by rfl) ?_
        refine c_notin_ct ?_
        refine TT_bool ?_
        rw [decide_eq_false s5]
        show EXs _ _ _ _ _ _
        refine EXs_cons ?_
        refine EX_Assign_Name hk ?_
        refine EV_Meth ?_
        refine EV_local hk (by rfl) ?_
        refine ⟨_,MT_of PySem.F.slot_str_replace PySem.F.type_str_replace,?_⟩
        refine EVs_cons ?_
        refine EV_strL _ ?_ (by walk_at "lit")
        refine EVs_cons ?_
        refine EV_strL _ ?_ (by walk_at "lit")
        refine EVs_nil ?_
        refine CL_replace_none s10 ?_
        refine EXs_nil ?_
        refine EXs_cons ?_
        refine EX_Assign_Name hk ?_
        refine EV_Meth ?_
        refine EV_global hk h.re ?_
        refine ⟨_,Rx.MT_sub h.pat2,?_⟩
        refine EVs_cons ?_
        refine EV_Lambda h.bm T rfl hk (fun Lm fd=>?_)
        refine EVs_cons ?_
        refine EV_local hk (by rfl) ?_
        refine EVs_nil ?_
        refine Rx.CL_sub h.pat2 ⟨by cases stuff with | nil=>exact absurd rfl s8 | cons _ _=>simp,hsl⟩ s7 (.head _) ?_
        refine EXs_cons ?_
        refine EX_Assign_Name hk ?_
        refine EV_BinOp ?_
        refine EV_local hk (by rfl) ?_
        refine EV_int ?_
        refine add_ii ?_
        rw [show (((setEnd pat i:Nat):Int) + 1)=((setEnd pat i + 1:Nat):Int) by omega]
        refine EXs_cons ?_
        refine EX_If ?_
        refine TR_Not ?_
        refine TR_plain ?_
        refine EV_local hk (by rfl) ?_
        refine TT_str (l:=stuff) (by omega) ?_
        rw [show (!(!stuff.isEmpty))=false from by cases stuff with | nil=>exact absurd rfl s8 | cons _ _=>rfl]
        show EXs _ _ _ _ _ _
        refine EXs_cons ?_
        refine EX_If ?_
        refine TR_Compare ?_
        refine EV_local hk (by rfl) ?_
        refine EV_strL _ ?_ (by walk_at "lit")
        refine c_eq_tt ?_
        refine TT_bool ?_
        rw [decide_eq_false s9]
        show EXs _ _ _ _ _ _
        have hsp:0 < stuff.length:=by cases stuff with | nil=>exact absurd rfl s8 | cons _ _=>simp
        refine EXs_cons ?_
        refine J.mono (P:=fun fl σ'=>fl=Fl.next∧∃ loc',σ'=⟨loc',(Lm,.obj (fnObj fd)) :: trZ star D m res σ.zone⟩∧Sub loc' [("pat",tx pat),("STAR",.raw (.ref star)),("QUESTION_MARK",tx [46]),("res",.raw (.ref D)),("add",.raw (.ref m)),("i",.int ((setEnd pat i + 1:Nat):Int)),("n",.int (pat.length:Nat)),("stuff",tx (setTxt stuff))]) ?_ ?_
        ·refine EX_If ?_
         refine TR_Compare ?_
         refine EV_Subscript ?_
         refine EV_local hk (by rfl) ?_
         refine EV_int ?_
         refine IX_tD (by omega) (by omega) (by omega) ?_
         rw [show ((0:Int).toNat)=0 from rfl]
         refine EV_strL _ ?_ (by walk_at "lit")
         refine c_eq_tt ?_
         refine TT_bool ?_
         by_cases q33:stuff.getD 0 0=33
         ·rw [q33]
          have es:setTxt stuff=[94]++stuff.drop 1:=by unfold setTxt; rw [if_pos q33]
          rw [es]
          show EXs _ _ _ _ _ _
          refine EXs_cons ?_
          refine EX_Assign_Name hk ?_
          refine EV_BinOp ?_
          refine EV_strL _ ?_ (by walk_at "lit")
          refine EV_SubSlice ?_
          refine EV_local hk (by rfl) ?_
          refine PT_some ?_
          refine EV_int ?_
          refine ⟨_,rfl,?_⟩
          refine PT_none ?_
          refine SLC_t (by omega) ?_
          have e1:sl stuff (some 1) none=stuff.drop 1:=by
           unfold sl
           rw [show slo stuff.length (some 1)=1 from slo_nat (a:=1) hsp]
           show List.take (stuff.length - 1) _=_
           rw [List.take_of_length_le (by simp)]
          rw [e1]
          refine add_tt (by simp; omega) ?_
          refine EXs_nil ?_
          exact ⟨rfl,_,rfl,by walk_at "sub"⟩
         ·rw [decide_eq_false (show ¬ [stuff.getD 0 0]=[33] from fun q=>q33 (List.cons.inj q).1)]
          show EXs _ _ _ _ _ _
          refine EXs_cons ?_
          refine EX_If ?_
          refine TR_Compare ?_
          refine EV_Subscript ?_
          refine EV_local hk (by rfl) ?_
          refine EV_int ?_
          refine IX_tD (by omega) (by omega) (by omega) ?_
          rw [show ((0:Int).toNat)=0 from rfl]
          refine EV_Tuple ?_
          refine EVs_cons ?_
          refine EV_strL _ ?_ (by walk_at "lit")
          refine EVs_cons ?_
          refine EV_strL _ ?_ (by walk_at "lit")
          refine EVs_nil ?_
          repeat walk_at "st"
          refine in_tups (as:=[[94],[91]]) ?_
          refine TT_bool ?_
          by_cases q2:stuff.getD 0 0=94∨stuff.getD 0 0=91
          ·have es:setTxt stuff=[92]++stuff:=by unfold setTxt; rw [if_neg q33,if_pos q2]
           rw [es,decide_eq_true (show [stuff.getD 0 0]∈([[94],[91]]:List (List Nat)) from by rcases q2 with q | q <;> rw [q] <;> simp)]
           show EXs _ _ _ _ _ _
           refine EXs_cons ?_
           refine EX_Assign_Name hk ?_
           refine EV_BinOp ?_
           refine EV_strL _ ?_ (by walk_at "lit")
           refine EV_local hk (by rfl) ?_
           refine add_tt (by simp; omega) ?_
           repeat refine EXs_nil ?_
           exact ⟨rfl,_,rfl,by walk_at "sub"⟩
          ·have es:setTxt stuff=stuff:=by unfold setTxt; rw [if_neg q33,if_neg q2]
           rw [es,decide_eq_false (show ¬ [stuff.getD 0 0]∈([[94],[91]]:List (List Nat)) from fun q=>q2 (by simpa using q))]
           show EXs _ _ _ _ _ _
           repeat refine EXs_nil ?_
           exact ⟨rfl,_,rfl,by walk_at "sub"⟩
        rintro _ _ ⟨rfl,loc2,rfl,hsub2⟩
        refine EXs_weak (Sub.weak' hsub2 rfl) ?_
        refine EXs_cons ?_
        refine EX_Expr ?_
        refine EV_Call_obj ?_
        refine EV_local hk (by rfl) ?_
        refine ⟨m,D,rfl,?_⟩
        refine EVs_cons ?_
        have hstl:(setTxt stuff).length≤2000:=by
         unfold setTxt
         split
         ·simp; omega
         ·split
          ·simp; omega
          ·omega
        refine EV_Joined ?_
        refine JP_cons ?_
        refine EV_strL _ ?_ (by walk_at "lit")
        refine ⟨_,rfl,by simp,?_⟩
        refine JP_cons ?_
        refine EV_Formatted ?_
        refine EV_local hk (by rfl) ?_
        refine ⟨_,rfl,by omega,?_⟩
        refine ⟨_,rfl,by simp; omega,?_⟩
        refine JP_cons ?_
        refine EV_strL _ ?_ (by walk_at "lit")
        refine ⟨_,rfl,by simp; omega,?_⟩
        refine JP_nil (by simp; omega) ?_
        refine EVs_nil ?_
        refine ⟨.tail _ (.head _),CL_bound (.tail _ (.head _)) (.tail (.tail .head)) (by rw [List.length_map]; omega) ?_⟩
        refine ⟨trivial,?_⟩
        repeat refine EXs_nil ?_
        exact ⟨k,⟨trB pat star D m (setEnd pat i + 1),trZ star D m (res++[some ([91]++setTxt stuff++[93])]) σ.zone⟩,by omega,(Weak.drop (pre:=[])).trans (Sub.weak' (by walk_at "sub") (by simp [itPV])),setEnd pat i + 1,_,ht,by simp; omega,rfl⟩
       ·rw [decide_eq_false (show ¬ [pat.getD j 0]=[93] from fun q=>h93 (List.cons.inj q).1)]
        obtain ⟨f2,hf2,hsc2⟩:=hgo ⟨hjn,h93⟩
        show TRs _ _ _ _ _ _ _
        refine TRs_nil ?_
        show EXs _ _ _ _ _ _
        refine EXs_cons ?_
        refine EX_Assign_Name hk ?_
        refine EV_BinOp ?_
        refine EV_local hk (by rfl) ?_
        refine EV_int ?_
        refine add_ii ?_
        rw [show ((j:Int) + 1)=((j + 1:Nat):Int) by omega]
        refine EXs_nil ?_
        exact ⟨f2,_,by omega,Weak.refl,j + 1,hsc2,by omega,by omega,rfl⟩
      ·have hje:=hstop (fun q=>hjn q.1)
       omega
     ·rw [if_neg hset] at ht; cases ht
    ·rw [if_neg h91] at ht
     by_cases h128:pat.getD i 0 < 128
     ·rw [if_pos h128] at ht
      rw [decide_eq_false (show ¬ [pat.getD i 0]=[91] from fun q=>h91 (List.cons.inj q).1)]
      show EXs _ _ _ _ _ _
      refine EXs_cons ?_
      refine EX_Expr ?_
      refine EV_Call_obj ?_
      refine EV_local hk (by rfl) ?_
      refine ⟨m,D,rfl,?_⟩
      refine EVs_cons ?_
      refine EV_Call_fn hfe ?_
      refine EV_global hk h.esc.fn.glob ?_
      refine ⟨rfl,?_⟩
      refine EVs_cons ?_
      refine EV_local hk (by rfl) ?_
      refine EVs_nil ?_
      refine escape_spec hr' h.esc h128 ?_
      refine EVs_nil ?_
      refine ⟨.head _,CL_bound (.head _) (.tail .head) (by rw [List.length_map]; omega) ?_⟩
      refine ⟨trivial,?_⟩
      refine EXs_nil ?_
      refine EXs_nil ?_
      refine EXs_nil ?_
      refine EXs_nil ?_
      exact ⟨k,⟨trB pat star D m (i + 1),trZ star D m (res++[some (escL (pat.getD i 0))]) σ.zone⟩,by omega,Sub.weak' (by walk_at "sub") (by simp [itPV]),i + 1,_,ht,by simp; omega,rfl⟩
     ·rw [if_neg h128] at ht; cases ht
  ·rw [if_neg hi] at ht
   rw [decide_eq_false (show ¬ (i:Int) < (pat.length:Int) by omega),if_neg (by decide)]
   refine EXs_nil ?_
   by_cases he:i=pat.length
   ·rw [if_pos he] at ht
    cases ht
    subst he
    refine EXs_cons ?_
    refine EX_Assert ?_
    refine TR_Compare ?_
    refine EV_local hk (by rfl) ?_
    refine EV_local hk (by rfl) ?_
    refine c_eq_ii ?_
    refine TT_bool ?_
    refine ⟨by simp,?_⟩
    refine EXs_cons ?_
    refine EX_Return ?_
    refine EV_local hk (by rfl) ?_
    exact ⟨[_],_,rfl,hP D⟩
   ·rw [if_neg he] at ht; cases ht
end SC8
section SC9
open PySem.W PySem.Builtin PySem.Builtin.ObjectAttr
variable {g:Gl} {A:Around} {F:Fm} {σ:AS} {P:PV→AS→Prop} {loc:List (Str × PV)}
def joined (a b:List Nat):List Nat:=[40,63,115,58]++([40,63,62,46,42,63]++(a++b)++[41]++[46,42])++[41,92,90]
abbrev jB (star I D m:Addr) (i:Nat):List (Str × PV):=[("inp",.raw (.ref I)),("STAR",.raw (.ref star)),("res",.raw (.ref D)),("add",.raw (.ref m)),("i",.int (i:Nat)),("n",.int 4)]
theorem join_spec {f star I:Addr} (hr:Rm A 1) (hf:Fn g 23 "_join_translated_parts" f) (hlen:g.Blt "len" (.builtin "len")) {a b:List Nat} (ha:a.length≤1000) (hb:b.length≤1000) (hI:(I,.list [.raw (.ref star),tx a,tx b,.raw (.ref star)])∈σ.zone)
  (hP:P (tx (joined a b)) σ):CL g A F (.ref f) [.raw (.ref I),.raw (.ref star)] σ P:=by
 obtain ⟨c,pm,hfa⟩:=hf.at_
 refine CL_fnE (n:=0) (xs:=["inp","STAR"]) hr hfa (by decide) rfl (fun vs hv=>?_) (by rfl) (by rfl) fun L=>?_
 ·match vs,hv with | [u,v],_=>rfl
 ·have hk:FnEnv (fnFm (mkF 23 "_join_translated_parts" c pm) L f):=fnEnv_mkF rfl
  have hr':=hr.deeper (env:=callEnv (mkF 23 "_join_translated_parts" c pm) L f)
  refine EXs_cons ?_
  refine EX_Assign_Name hk ?_
  refine EV_List_new ?_
  refine EVs_nil ⟨by simp,fun D=>?_⟩
  refine EXs_cons ?_
  refine EX_Assign_Name hk ?_
  refine EV_boundAppend ?_
  refine EV_local hk (by rfl) ?_
  refine ⟨D,_,rfl,.head _,fun m=>?_⟩
  refine EXs_cons ?_
  refine EX_Assign_swapped (names:=["i","n"]) (Rm.le hr' (by decide)) ?_
  refine EV_Tuple ?_
  refine EVs_cons ?_
  refine EV_int ?_
  refine EVs_cons ?_
  refine EV_Call_flat ?_
  refine EV_builtin hk hlen ?_
  refine ⟨_,rfl,rfl,?_⟩
  refine EVs_cons ?_
  refine EV_local hk (by rfl) ?_
  refine EVs_nil ?_
  refine CL_len_z (.tail _ (.tail _ hI)) (by simp) ?_
  refine EVs_nil ?_
  repeat walk_at "st"
  refine ⟨_,rfl,rfl,?_⟩
  repeat walk_at "asg"
  refine EXs_weak (σ':=⟨jB star I D m 0,(m,.obj (boundAppend D)) :: (D,.list []) :: σ.zone⟩) (Sub.weak' (by walk_at "sub") rfl) ?_
  refine EXs_cons ?_
  refine EX_While_ind (fun n σ'=>σ'=⟨jB star I D m 0,(m,.obj (boundAppend D)) :: (D,.list []) :: σ.zone⟩) 0 rfl ?_
  rintro _ _ rfl
  refine TR_BoolOp ?_
  refine TRs_cons ?_
  refine TR_Compare ?_
  refine EV_local hk (by rfl) ?_
  refine EV_local hk (by rfl) ?_
  refine c_lt_ii ?_
  refine TT_bool ?_
  show TRs _ _ _ _ _ _ _
  refine TRs_cons ?_
  refine TR_Compare ?_
  refine EV_Subscript ?_
  refine EV_local hk (by rfl) ?_
  refine EV_local hk (by rfl) ?_
  refine IX_zD (tx []) (.tail _ (.tail _ hI)) (by decide) (by simp) (by simp) ?_
  refine EV_local hk (by rfl) ?_
  refine isNot_ref_self ?_
  refine TT_bool ?_
  show EXs _ _ _ _ _ _
  refine EXs_nil ?_
  refine EXs_cons ?_
  refine EX_While 3 ?_
  refine TR_Compare ?_
  refine EV_local hk (by rfl) ?_
  refine EV_local hk (by rfl) ?_
  refine c_lt_ii ?_
  refine TT_bool ?_
  show EXs _ _ _ _ _ _
  refine EXs_cons ?_
  refine EX_Assert ?_
  refine TR_Compare ?_
  refine EV_Subscript ?_
  refine EV_local hk (by rfl) ?_
  refine EV_local hk (by rfl) ?_
  refine IX_zD (tx []) (.tail _ (.tail _ hI)) (by decide) (by simp) (by simp) ?_
  refine EV_local hk (by rfl) ?_
  refine is_ref_self ?_
  refine TT_bool ?_
  refine ⟨rfl,?_⟩
  refine EXs_cons ?_
  refine EX_Aug_Name hk (by rfl) ?_
  refine EV_int ?_
  refine iadd_ii ?_
  refine EXs_cons ?_
  refine EX_If ?_
  refine TR_Compare ?_
  refine EV_local hk (by rfl) ?_
  refine EV_local hk (by rfl) ?_
  refine c_eq_ii ?_
  refine TT_bool ?_
  show EXs _ _ _ _ _ _
  refine EXs_nil ?_
  refine EXs_cons ?_
  refine EX_Assert ?_
  refine TR_Compare ?_
  refine EV_Subscript ?_
  refine EV_local hk (by rfl) ?_
  refine EV_local hk (by rfl) ?_
  refine IX_zD (tx []) (.tail _ (.tail _ hI)) (by decide) (by simp) (by simp) ?_
  refine EV_local hk (by rfl) ?_
  refine isNot_t_ref ?_
  refine TT_bool ?_
  refine ⟨rfl,?_⟩
  refine EXs_cons ?_
  refine EX_Assign_Name hk ?_
  refine EV_List_new ?_
  refine EVs_nil ⟨by simp,fun Fx=>?_⟩
  refine EXs_cons ?_
  refine EX_While 3 ?_
  refine TR_BoolOp ?_
  refine TRs_cons ?_
  refine TR_Compare ?_
  refine EV_local hk (by rfl) ?_
  refine EV_local hk (by rfl) ?_
  refine c_lt_ii ?_
  refine TT_bool ?_
  show TRs _ _ _ _ _ _ _
  refine TRs_cons ?_
  refine TR_Compare ?_
  refine EV_Subscript ?_
  refine EV_local hk (by rfl) ?_
  refine EV_local hk (by rfl) ?_
  refine IX_zD (tx []) (.tail _ (.tail _ (.tail _ hI))) (by decide) (by simp) (by simp) ?_
  refine EV_local hk (by rfl) ?_
  refine isNot_t_ref ?_
  refine TT_bool ?_
  show TRs _ _ _ _ _ _ _
  refine TRs_nil ?_
  show EXs _ _ _ _ _ _
  refine EXs_cons ?_
  refine EX_Expr ?_
  refine EV_append ?_
  refine EV_local hk (by rfl) ?_
  refine ⟨Fx,_,rfl,.head _,?_⟩
  refine EV_Subscript ?_
  refine EV_local hk (by rfl) ?_
  refine EV_local hk (by rfl) ?_
  refine IX_zD (tx []) (.tail _ (.tail _ (.tail _ hI))) (by decide) (by simp) (by simp) ?_
  refine ⟨_,_,.head,by simp,?_⟩
  refine ⟨trivial,?_⟩
  refine EXs_cons ?_
  refine EX_Aug_Name hk (by rfl) ?_
  refine EV_int ?_
  refine iadd_ii ?_
  refine EXs_nil ?_
  refine TR_BoolOp ?_
  refine TRs_cons ?_
  refine TR_Compare ?_
  refine EV_local hk (by rfl) ?_
  refine EV_local hk (by rfl) ?_
  refine c_lt_ii ?_
  refine TT_bool ?_
  show TRs _ _ _ _ _ _ _
  refine TRs_cons ?_
  refine TR_Compare ?_
  refine EV_Subscript ?_
  refine EV_local hk (by rfl) ?_
  refine EV_local hk (by rfl) ?_
  refine IX_zD (tx []) (.tail _ (.tail _ (.tail _ hI))) (by decide) (by simp) (by simp) ?_
  refine EV_local hk (by rfl) ?_
  refine isNot_t_ref ?_
  refine TT_bool ?_
  show TRs _ _ _ _ _ _ _
  refine TRs_nil ?_
  show EXs _ _ _ _ _ _
  refine EXs_cons ?_
  refine EX_Expr ?_
  refine EV_append ?_
  refine EV_local hk (by rfl) ?_
  refine ⟨Fx,_,rfl,.head _,?_⟩
  refine EV_Subscript ?_
  refine EV_local hk (by rfl) ?_
  refine EV_local hk (by rfl) ?_
  refine IX_zD (tx []) (.tail _ (.tail _ (.tail _ hI))) (by decide) (by simp) (by simp) ?_
  refine ⟨_,_,.head,by simp,?_⟩
  refine ⟨trivial,?_⟩
  refine EXs_cons ?_
  refine EX_Aug_Name hk (by rfl) ?_
  refine EV_int ?_
  refine iadd_ii ?_
  refine EXs_nil ?_
  refine TR_BoolOp ?_
  refine TRs_cons ?_
  refine TR_Compare ?_
  refine EV_local hk (by rfl) ?_
  refine EV_local hk (by rfl) ?_
  refine c_lt_ii ?_
  refine TT_bool ?_
  show TRs _ _ _ _ _ _ _
  refine TRs_cons ?_
  refine TR_Compare ?_
  refine EV_Subscript ?_
  refine EV_local hk (by rfl) ?_
  refine EV_local hk (by rfl) ?_
  refine IX_zD (tx []) (.tail _ (.tail _ (.tail _ hI))) (by decide) (by simp) (by simp) ?_
  refine EV_local hk (by rfl) ?_
  refine isNot_ref_self ?_
  refine TT_bool ?_
  show EXs _ _ _ _ _ _
  refine EXs_nil ?_
  refine EXs_cons ?_
  refine EX_Assign_Name hk ?_
  refine EV_Meth ?_
  refine EV_strL _ ?_ (by walk_at "lit")
  refine ⟨_,MT_join,?_⟩
  refine EVs_cons ?_
  refine EV_local hk (by rfl) ?_
  refine EVs_nil ?_
  refine CL_join_z (ls:=[a,b]) (.head _) (by unfold JoinFit; simp; omega) ?_
  have ej:joinL [] [a,b]=a++b:=by simp [joinL]
  rw [ej]
  refine EXs_cons ?_
  refine EX_If ?_
  refine TR_Compare ?_
  refine EV_local hk (by rfl) ?_
  refine EV_local hk (by rfl) ?_
  refine c_eq_ii ?_
  refine TT_bool ?_
  show EXs _ _ _ _ _ _
  refine EXs_cons ?_
  refine EX_Expr ?_
  refine EV_Call_obj ?_
  refine EV_local hk (by rfl) ?_
  refine ⟨m,D,rfl,?_⟩
  refine EVs_cons ?_
  refine EV_Joined ?_
  refine JP_cons ?_
  refine EV_strL _ ?_ lit34
  refine ⟨_,rfl,by simp,?_⟩
  refine JP_cons ?_
  refine EV_Formatted ?_
  refine EV_local hk (by rfl) ?_
  refine ⟨_,rfl,by simp; omega,?_⟩
  refine ⟨_,rfl,by simp; omega,?_⟩
  refine JP_cons ?_
  refine EV_strL _ ?_ lit35
  refine ⟨_,rfl,by simp; omega,?_⟩
  refine JP_nil (by simp; omega) ?_
  refine EVs_nil ?_
  refine ⟨.tail _ (.head _),CL_bound (.tail _ (.head _)) (.tail (.tail .head)) (by simp) ?_⟩
  refine ⟨trivial,?_⟩
  refine EXs_nil ?_
  refine EXs_nil ?_
  refine TR_Compare ?_
  refine EV_local hk (by rfl) ?_
  refine EV_local hk (by rfl) ?_
  refine c_lt_ii ?_
  refine TT_bool ?_
  show EXs _ _ _ _ _ _
  refine EXs_cons ?_
  refine EX_Assert ?_
  refine TR_Compare ?_
  refine EV_Subscript ?_
  refine EV_local hk (by rfl) ?_
  refine EV_local hk (by rfl) ?_
  refine IX_zD (tx []) (.tail _ (.tail _ (.tail _ hI))) (by decide) (by simp) (by simp) ?_
  refine EV_local hk (by rfl) ?_
  refine is_ref_self ?_
  refine TT_bool ?_
  refine ⟨rfl,?_⟩
  refine EXs_cons ?_
  refine EX_Aug_Name hk (by rfl) ?_
  refine EV_int ?_
  refine iadd_ii ?_
  refine EXs_cons ?_
  refine EX_If ?_
  refine TR_Compare ?_
  refine EV_local hk (by rfl) ?_
  refine EV_local hk (by rfl) ?_
  refine c_eq_ii ?_
  refine TT_bool ?_
  show EXs _ _ _ _ _ _
  refine EXs_cons ?_
  refine EX_Expr ?_
  refine EV_Call_obj ?_
  refine EV_local hk (by rfl) ?_
  refine ⟨m,D,rfl,?_⟩
  refine EVs_cons ?_
  refine EV_strL _ ?_ lit29
  refine EVs_nil ?_
  refine ⟨.tail _ (.head _),CL_bound (.tail _ (.head _)) (.tail (.tail .head)) (by simp) ?_⟩
  refine ⟨trivial,?_⟩
  refine EXs_cons ?_
  refine EX_Break ?_
  refine EXs_cons ?_
  refine EX_Assert ?_
  refine TR_Compare ?_
  refine EV_local hk (by rfl) ?_
  refine EV_local hk (by rfl) ?_
  refine c_eq_ii ?_
  refine TT_bool ?_
  refine ⟨rfl,?_⟩
  refine EXs_cons ?_
  refine EX_Assign_Name hk ?_
  refine EV_Meth ?_
  refine EV_strL _ ?_ (by walk_at "lit")
  refine ⟨_,MT_join,?_⟩
  refine EVs_cons ?_
  refine EV_local hk (by rfl) ?_
  refine EVs_nil ?_
  refine CL_join_z (ls:=[[]++[40,63,62,46,42,63]++(a++b)++[41],[46,42]]) (.tail _ (.tail _ (.head _))) (by unfold JoinFit; simp; omega) ?_
  have ej2:joinL [] [[]++[40,63,62,46,42,63]++(a++b)++[41],[46,42]]=[40,63,62,46,42,63]++(a++b)++[41]++[46,42]:=by simp [joinL]
  rw [ej2]
  refine EXs_cons ?_
  refine EX_Return ?_
  refine EV_Joined ?_
  refine JP_cons ?_
  refine EV_strL _ ?_ lit13
  refine ⟨_,rfl,by simp,?_⟩
  refine JP_cons ?_
  refine EV_Formatted ?_
  refine EV_local hk (by rfl) ?_
  refine ⟨_,rfl,by simp; omega,?_⟩
  refine ⟨_,rfl,by simp; omega,?_⟩
  refine JP_cons ?_
  refine EV_strL _ ?_ lit14
  refine ⟨_,rfl,by simp; omega,?_⟩
  refine JP_nil (by simp; omega) ?_
  exact Ends.mk [_,_,_] rfl hP
theorem translate_spec {f ft fj fe d pat2:Addr} (hr:Rm A 3) (hf:Fn g 17 "translate" f) (ht:TrOk g ft fe d pat2) (hj:Fn g 23 "_join_translated_parts" fj) (hobj:g.Blt "object" (.type "object")) {pat a b:List Nat} (hp:pat.length≤1000) (htr:trGo pat (pat.length + 1) 0 []=some [none,some a,some b,none]) (ha:a.length≤1000) (hb:b.length≤1000)
  (hP:P (tx (joined a b)) σ):CL g A F (.ref f) [tx pat] σ P:=by
 obtain ⟨c,pm,hfa⟩:=hf.at_
 obtain ⟨c2,pm2,hfa2,-⟩:=ht.at_
 obtain ⟨c3,pm3,hfa3⟩:=hj.at_
 refine CL_fnE (n:=2) (xs:=["pat"]) hr hfa (by decide) rfl (fun vs hv=>?_) (by rfl) (by rfl) fun L=>?_
 ·match vs,hv with | [u],_=>rfl
 ·have hk:FnEnv (fnFm (mkF 17 "translate" c pm) L f):=fnEnv_mkF rfl
  have hr':=hr.deeper (env:=callEnv (mkF 17 "translate" c pm) L f)
  refine EXs_cons ?_
  refine EX_Assign_Name hk ?_
  refine EV_Call_flat ?_
  refine EV_builtin hk hobj ?_
  refine ⟨_,rfl,rfl,?_⟩
  refine EVs_nil ?_
  refine CL_object fun star=>?_
  refine EXs_cons ?_
  refine EX_Assign_Name hk ?_
  refine EV_Call_fn hfa2 ?_
  refine EV_global hk ht.glob ?_
  refine ⟨rfl,?_⟩
  refine EVs_cons ?_
  refine EV_local hk (by rfl) ?_
  refine EVs_cons ?_
  refine EV_local hk (by rfl) ?_
  refine EVs_cons ?_
  refine EV_strL _ ?_ lit11
  refine EVs_nil ?_
  refine tr_spec (star:=star) hr' ht hp htr (.head _) fun I=>?_
  refine EXs_cons ?_
  refine EX_Return ?_
  refine EV_Call_fn hfa3 ?_
  refine EV_global hk hj.glob ?_
  refine ⟨rfl,?_⟩
  refine EVs_cons ?_
  refine EV_local hk (by rfl) ?_
  refine EVs_cons ?_
  refine EV_local hk (by rfl) ?_
  refine EVs_nil ?_
  refine join_spec (Rm.le hr' (by decide)) hj ht.len ha hb (.head _) ?_
  exact Ends.mk [_,_] rfl hP
end SC9
section SP1a
def figs (V s k:Nat):List Nat:=(List.range k).map fun j=>V / 2 ^ (s + 6 * (k - 1 - j)) % 64
theorem figs_shift {V b s k:Nat} (hb:b < 256):figs (V * 256 + b) (s + 8) k=figs V s k:=by
 unfold figs
 refine List.map_congr_left fun j _=>?_
 rw [show s + 8 + 6 * (k - 1 - j)=8 + (s + 6 * (k - 1 - j)) by omega,Nat.pow_add,← Nat.div_div_eq_div_mul,show (V * 256 + b) / 2 ^ 8=V by omega]
theorem figs_snoc {V s k:Nat}:figs V s (k + 1)=figs V (s + 6) k++[V / 2 ^ s % 64]:=by
 unfold figs
 rw [List.range_succ,List.map_append]
 congr 1
 ·refine List.map_congr_left fun j hj=>?_
  have:=List.mem_range.mp hj
  rw [show s + 6 * (k + 1 - 1 - j)=s + 6 + 6 * (k - 1 - j) by omega]
 ·simp
theorem figs_mul {V m s k:Nat}:figs (V * 2 ^ m) (s + m) k=figs V s k:=by
 unfold figs
 refine List.map_congr_left fun j _=>?_
 rw [show s + m + 6 * (k - 1 - j)=m + (s + 6 * (k - 1 - j)) by omega,Nat.pow_add,← Nat.div_div_eq_div_mul,Nat.mul_div_cancel _ (Nat.pow_pos (by decide))]
theorem low_figs {V a:Nat} (h:a≤10):V % 65536 / 2 ^ a % 64=V / 2 ^ a % 64:=by
 have h1:V=65536 * (V / 65536) + V % 65536:=(Nat.div_add_mod V 65536).symm
 have h2:65536=2 ^ a * (64 * 2 ^ (10 - a)):=by
  rw [show (64:Nat)=2 ^ 6 from rfl,← Nat.pow_add,← Nat.pow_add,show a + (6 + (10 - a))=16 by omega]
 have h3:V / 2 ^ a=64 * 2 ^ (10 - a) * (V / 65536) + V % 65536 / 2 ^ a:=by
  rw [h2] at h1 ⊢
  conv=>lhs; rw [h1]
  rw [Nat.mul_assoc,Nat.mul_add_div (Nat.pow_pos (by decide))]
 rw [h3,Nat.mul_assoc,Nat.mul_add_mod]
structure BInv (l:List Nat) (st:BSt):Prop where
 lb:st.2.1=8 * l.length % 6
 out:st.1=(figs (valueOf l) st.2.1 (8 * l.length / 6)).map b64c
 lc:st.2.2=valueOf l % 65536
theorem valueOf_snoc (l:List Nat) (b:Nat):valueOf (l++[b])=valueOf l * 256 + b:=by
 unfold valueOf; rw [List.foldl_append]; rfl
theorem BInv.step {l:List Nat} {st:BSt} (h:BInv l st) {b:Nat} (hb:b < 256):BInv (l++[b]) (b2aStep st b):=by
 obtain ⟨out,lb,lc⟩:=st
 obtain ⟨h1,h2,h3⟩:=h
 dsimp only at h1 h2 h3
 have hlen:(l++[b]).length=l.length + 1:=by simp
 have hc:(lc * 256 + b) % 65536=valueOf (l++[b]) % 65536:=by rw [valueOf_snoc,h3]; omega
 have ho:out=(figs (valueOf (l++[b])) (lb + 8) (8 * l.length / 6)).map b64c:=by rw [h2,valueOf_snoc,figs_shift hb]
 have hev:lb=0∨lb=2∨lb=4:=by omega
 unfold b2aStep
 dsimp only
 rw [hc]
 generalize hV:valueOf (l++[b])=V at *
 have e1:emit (V % 65536) 2 (lb + 8) out=emit (V % 65536) 1 (lb + 2) ((figs V (lb + 2) (8 * l.length / 6 + 1)).map b64c):=by
  show (if 6≤lb + 8 then emit (V % 65536) 1 (lb + 8 - 6) (out++[b64c (V % 65536 / 2 ^ (lb + 8 - 6) % 64)]) else _)=_
  rw [if_pos (by omega),show lb + 8 - 6=lb + 2 by omega,low_figs (by omega),figs_snoc,List.map_append,ho]; rfl
 rw [e1]
 rcases hev with q | q | q <;> subst q
 ·rw [emit_stop (by decide)]
  exact ⟨by rw [hlen]; show 0 + 2=_; omega,by rw [hlen]; show List.map b64c _=List.map b64c _; rw [hV,show 8 * (l.length + 1) / 6=8 * l.length / 6 + 1 by omega],by rw [hV]⟩
 ·rw [emit_stop (by decide)]
  exact ⟨by rw [hlen]; show 2 + 2=_; omega,by rw [hlen]; show List.map b64c _=List.map b64c _; rw [hV,show 8 * (l.length + 1) / 6=8 * l.length / 6 + 1 by omega],by rw [hV]⟩
 ·have e2:emit (V % 65536) 1 (4 + 2) ((figs V (4 + 2) (8 * l.length / 6 + 1)).map b64c)=((figs V 0 (8 * l.length / 6 + 2)).map b64c,0):=by
   show (if 6≤6 then emit (V % 65536) 0 (6 - 6) (_++[b64c (V % 65536 / 2 ^ (6 - 6) % 64)]) else _)=_
   rw [if_pos (by omega),low_figs (by omega),figs_snoc (V:=V) (s:=0) (k:=8 * l.length / 6 + 1),List.map_append]; rfl
  rw [e2]
  exact ⟨by rw [hlen]; show 0=_; omega,by rw [hlen]; show List.map b64c _=List.map b64c _; rw [hV,show 8 * (l.length + 1) / 6=8 * l.length / 6 + 2 by omega],by rw [hV]⟩
theorem BInv.all:∀ (l done:List Nat) (st:BSt),(∀ n∈l,n < 256)→BInv done st→BInv (done++l) (l.foldl b2aStep st)
 | [],done,st,_,h=>by rw [List.append_nil]; exact h
 | b :: l,done,st,hl,h=>by
  have:=BInv.all l (done++[b]) (b2aStep st b) (fun n hn=>hl n (List.mem_cons_of_mem _ hn)) (h.step (hl b List.mem_cons_self))
  rw [List.append_assoc] at this
  exact this
theorem b2a_figs {l:List Nat} (hl:∀ n∈l,n < 256):b2a l=(figs (valueOf l * 2 ^ shiftOf l.length) 0 ((8 * l.length + 5) / 6)).map b64c++List.replicate (padOf l.length) 61:=by
 have h:=BInv.all l [] ([],0,0) hl ⟨rfl,rfl,rfl⟩
 rw [List.nil_append] at h
 unfold b2a b2aFin
 generalize l.foldl b2aStep ([],0,0)=st at h ⊢
 obtain ⟨out,lb,lc⟩:=st
 obtain ⟨h1,h2,h3⟩:=h
 dsimp only at h1 h2 h3 ⊢
 generalize valueOf l=V at *
 generalize l.length=n at *
 have hs:shiftOf n=(6 - lb) % 6:=by
  unfold shiftOf
  have:(-8 * (n:Int)).fmod 6=(((6 - lb) % 6:Nat):Int):=by rw [Int.fmod_eq_emod_of_nonneg _ (by decide)]; omega
  rw [this]; rfl
 have hp:padOf n=if lb=2 then 2 else if lb=4 then 1 else 0:=by
  unfold padOf
  have:(-(n:Int)).fmod 3=(((if lb=2 then 2 else if lb=4 then 1 else 0:Nat)):Int):=by
   rw [Int.fmod_eq_emod_of_nonneg _ (by decide)]
   split
   ·omega
   ·split <;> omega
  rw [this]; rfl
 have hev:lb=0∨lb=2∨lb=4:=by omega
 rcases hev with q | q | q <;> subst q
 ·rw [hs,hp,if_neg (by decide),if_neg (by decide),show (8 * n + 5) / 6=8 * n / 6 by omega]
  simp [h2]
 ·rw [hs,hp,if_pos rfl,show (8 * n + 5) / 6=8 * n / 6 + 1 by omega,figs_snoc,List.map_append,List.append_assoc,show (6 - 2) % 6=4 from rfl]
  rw [show 0 + 6=2 + 4 from rfl,figs_mul,← h2]
  congr 1
  rw [h3,show V % 65536 % 4 * 16=V * 2 ^ 4 / 2 ^ 0 % 64 by omega]
  rfl
 ·rw [hs,hp,if_neg (by decide),if_pos rfl,show (8 * n + 5) / 6=8 * n / 6 + 1 by omega,figs_snoc,List.map_append,List.append_assoc,show (6 - 4) % 6=2 from rfl]
  rw [show 0 + 6=4 + 2 from rfl,figs_mul,← h2]
  congr 1
  rw [h3,if_neg (by decide),if_pos rfl,show V % 65536 % 16 * 4=V * 2 ^ 2 / 2 ^ 0 % 64 by omega]
  rfl
theorem encN_b64c {a b i:Nat} (h:i < 64):encN a b (b64c i)=(tab64++[a,b]).getD i 0:=by
 have key:∀ j:Fin 62,b64c j.1≠47∧b64c j.1≠43∧b64c j.1=tab64.getD j.1 0:=by decide +kernel
 by_cases h1:i < 62
 ·obtain ⟨k1,k2,k3⟩:=key ⟨i,h1⟩
  dsimp only at k1 k2 k3
  unfold encN
  rw [if_neg k1,if_neg k2,k3]
  rw [List.getD_eq_getElem?_getD,List.getD_eq_getElem?_getD,List.getElem?_append_left (by rw [tab64_len]; exact h1)]
 ·by_cases h2:i=62
  ·subst h2; rfl
  ·have:i=63:=by omega
   subst this; rfl
theorem b2a_writing {l:List Nat} (hl:∀ n∈l,n < 256) {a b:Nat}:(b2a l).map (encN a b)=writing l [a,b]:=by
 rw [b2a_figs hl]
 unfold writing
 rw [List.map_append,List.map_replicate,List.map_map]
 have e61:encN a b 61=61:=rfl
 rw [e61]
 congr 1
 unfold figuresOf figs
 rw [← List.map_reverse,List.map_map,List.map_map]
 have hrev:∀ n:Nat,(List.range n).reverse=(List.range n).map fun j=>n - 1 - j:=by
  intro n
  apply List.ext_getElem
  ·simp
  ·intro i h1 h2
   simp
 rw [hrev,List.map_map]
 refine List.map_congr_left fun j hj=>?_
 have:=List.mem_range.mp hj
 simp only [Function.comp]
 rw [encN_b64c (Nat.mod_lt _ (by decide)),Nat.zero_add,Nat.pow_mul]
end SP1a
section SP1b
namespace Rx
theorem getD_at {l r:List Nat} {c:Nat}:(l++c :: r).toArray.getD l.length 0=c:=by
 simp [Array.getD]
theorem wsRun_gap {pre r:List Nat} (hr:∀ c∈r.head?,isWs c=false):∀ (g:List Nat) (pre:List Nat) (n:Nat),(∀ c∈g,isWs c=true)→g.length≤n→n≤g.length + r.length→wsRun (pre++(g++r)).toArray n pre.length=g.length
 | [],pre,n,_,_,hn=>by
  cases n with
  | zero=>rfl
  | succ n =>
   cases r with
   | nil=>simp at hn
   | cons c r =>
    unfold wsRun
    rw [List.nil_append,getD_at,hr c (by simp)]
    rfl
 | c :: g,pre,n,hg,h1,h2=>by
  cases n with
  | zero=>simp at h1
  | succ n =>
   unfold wsRun
   rw [List.cons_append,getD_at,hg c List.mem_cons_self,if_pos rfl]
   have:=wsRun_gap (pre:=pre) hr g (pre++[c]) n (fun x hx=>hg x (List.mem_cons_of_mem _ hx)) (by simpa using h1) (by simp at h2 ⊢; omega)
   rw [show pre++c :: (g++r)=(pre++[c])++(g++r) by simp,show pre.length + 1=(pre++[c]).length by simp,this]
   simp
theorem nextWs_text {lim:Nat}:∀ (t pre r:List Nat) (d:Nat),(∀ c∈t,isWs c=false)→lim=(pre++(t++r)).length→nextWs (pre++(t++r)).toArray lim (t.length + d) pre.length=nextWs (pre++(t++r)).toArray lim d (pre.length + t.length)
 | [],pre,r,d,_,_=>by simp
 | c :: t,pre,r,d,ht,hl=>by
  have e0:wsRun (pre++(c :: t++r)).toArray (lim - pre.length) pre.length=0:=by
   rw [show lim - pre.length=(t.length + r.length) + 1 by rw [hl,List.length_append,List.length_append,List.length_cons]; omega]
   unfold wsRun
   rw [List.cons_append,getD_at,ht c List.mem_cons_self]
   rfl
  rw [show (c :: t).length + d=(t.length + d) + 1 by simp; omega]
  have ih:=nextWs_text (lim:=lim) t (pre++[c]) r d (fun x hx=>ht x (List.mem_cons_of_mem _ hx)) (by rw [hl]; simp)
  rw [show (pre++[c])++(t++r)=pre++(c :: t++r) by simp] at ih
  conv=>lhs; unfold nextWs
  rw [e0]
  simp only [List.length_append,List.length_cons,List.length_nil] at ih ⊢
  rw [ih]
  congr 1
  omega
theorem piece_mid {a b c:List Nat}:piece (a++(b++c)).toArray a.length (a.length + b.length)=b:=by
 unfold piece
 simp
def flatP:List (List Nat × List Nat)→List Nat
 | []=>[]
 | p :: r=>p.1++(p.2++flatP r)
def listP:List (List Nat × List Nat)→List (List Nat)
 | []=>[]
 | p :: r=>p.1 :: p.2 :: listP r
structure PairsOk (ps:List (List Nat × List Nat)):Prop where
 ws:∀ p∈ps,∀ c∈p.1,isWs c=true
 tx:∀ p∈ps,∀ c∈p.2,isWs c=false
 n1:∀ p∈ps,p.1≠[]
 n2:∀ p∈ps,p.2≠[]
theorem PairsOk.tl {p:List Nat × List Nat} {ps:List (List Nat × List Nat)} (h:PairsOk (p :: ps)):PairsOk ps :=
 ⟨fun q hq=>h.ws q (List.mem_cons_of_mem _ hq),fun q hq=>h.tx q (List.mem_cons_of_mem _ hq),fun q hq=>h.n1 q (List.mem_cons_of_mem _ hq),fun q hq=>h.n2 q (List.mem_cons_of_mem _ hq)⟩
theorem splitGo_words:∀ (ps:List (List Nat × List Nat)) (t pre:List Nat) (f:Nat),PairsOk ps→(∀ c∈t,isWs c=false)→ps.length≤f→splitGo (pre++(t++flatP ps)).toArray f pre.length=t :: listP ps
 | [],t,pre,f,_,ht,_=>by
  have hp:piece (pre++(t++flatP [])).toArray pre.length (pre++(t++flatP [])).toArray.size=t:=by
   have:=piece_mid (a:=pre) (b:=t) (c:=[])
   rw [show (pre++(t++flatP [])).toArray.size=pre.length + t.length by simp [flatP]]
   exact this
  cases f with
  | zero=>show [_]=_; rw [hp]; rfl
  | succ f =>
   have hn:=nextWs_text (lim:=(pre++(t++flatP [])).length) t pre [] 0 ht rfl
   unfold splitGo
   rw [show (pre++(t++flatP [])).toArray.size - pre.length=t.length + 0 by simp [flatP]]
   have hn':nextWs (pre++(t++flatP [])).toArray (pre++(t++flatP [])).toArray.size (t.length + 0) pre.length=none:=by
    rw [show (pre++(t++flatP [])).toArray.size=(pre++(t++flatP [])).length from List.size_toArray]
    exact hn
   rw [hn']
   show [_]=_
   rw [hp]; rfl
 | p :: ps,t,pre,f,hp,ht,hf=>by
  obtain ⟨g,u⟩:=p
  cases f with
  | zero=>simp at hf
  | succ f =>
   have hu:∀ c∈u,isWs c=false:=hp.tx _ List.mem_cons_self
   have hg:∀ c∈g,isWs c=true:=hp.ws _ List.mem_cons_self
   have hun:u≠[]:=hp.n2 _ List.mem_cons_self
   have hgn:g≠[]:=hp.n1 _ List.mem_cons_self
   have ih:=splitGo_words ps u (pre++t++g) f hp.tl hu (by simpa using hf)
   show splitGo (pre++(t++(g++(u++flatP ps)))).toArray (f + 1) pre.length=t :: g :: u :: listP ps
   have ea:pre++t++g++(u++flatP ps)=pre++(t++(g++(u++flatP ps))):=by simp
   rw [ea] at ih
   have hsz:(pre++(t++(g++(u++flatP ps)))).toArray.size=(pre++(t++(g++(u++flatP ps)))).length:=List.size_toArray
   have hlen:(pre++(t++(g++(u++flatP ps)))).length=pre.length + t.length + g.length + (u++flatP ps).length:=by
    rw [List.length_append,List.length_append,List.length_append]; omega
   have hgl:g.length≠0:=fun q=>hgn (List.eq_nil_of_length_eq_zero q)
   have hr:∀ c∈(u++flatP ps).head?,isWs c=false:=by
    cases u with
    | nil=>exact absurd rfl hun
    | cons a b=>intro c hc; simp at hc; subst hc; exact hu a List.mem_cons_self
   have hw:wsRun (pre++(t++(g++(u++flatP ps)))).toArray ((pre++(t++(g++(u++flatP ps)))).length - (pre.length + t.length)) (pre.length + t.length)=g.length:=by
    have:=wsRun_gap (pre:=[]) hr g (pre++t) ((pre++(t++(g++(u++flatP ps)))).length - (pre.length + t.length)) hg (by omega) (by omega)
    rw [show (pre++t).length=pre.length + t.length from List.length_append,List.append_assoc] at this
    exact this
   have hnext:nextWs (pre++(t++(g++(u++flatP ps)))).toArray (pre++(t++(g++(u++flatP ps)))).length ((pre++(t++(g++(u++flatP ps)))).length - pre.length) pre.length=some (pre.length + t.length,g.length):=by
    have h1:=nextWs_text (lim:=(pre++(t++(g++(u++flatP ps)))).length) t pre (g++(u++flatP ps)) (g.length + (u++flatP ps).length) ht rfl
    rw [show (pre++(t++(g++(u++flatP ps)))).length - pre.length=t.length + (g.length + (u++flatP ps).length) by omega,h1]
    rw [show g.length + (u++flatP ps).length=(g.length - 1 + (u++flatP ps).length) + 1 by omega]
    unfold nextWs
    rw [hw]
    obtain ⟨k,hk⟩:=Nat.exists_eq_succ_of_ne_zero hgl
    rw [hk]
   unfold splitGo
   rw [hsz,hnext]
   show piece _ pre.length (pre.length + t.length) :: piece _ (pre.length + t.length) (pre.length + t.length + g.length) :: splitGo _ f (pre.length + t.length + g.length)=_
   have e1:=piece_mid (a:=pre) (b:=t) (c:=g++(u++flatP ps))
   have e2:=piece_mid (a:=pre++t) (b:=g) (c:=u++flatP ps)
   rw [List.length_append,List.append_assoc] at e2
   rw [List.length_append,List.length_append] at ih
   rw [e1,e2,ih]
end Rx
theorem pairsL_listP:∀ ps:List (List Nat × List Nat),pairsL (Rx.listP ps)=ps
 | []=>rfl
 | p :: ps=>by
  show (p.1,p.2) :: pairsL (Rx.listP ps)=_
  rw [pairsL_listP ps]
theorem flatP_len {ps:List (List Nat × List Nat)} (h:Rx.PairsOk ps):ps.length≤(Rx.flatP ps).length:=by
 induction ps with
 | nil=>exact Nat.le_refl _
 | cons p r ih =>
  have:=ih h.tl
  have h1:p.1.length≠0:=fun q=>h.n1 p List.mem_cons_self (List.eq_nil_of_length_eq_zero q)
  show _≤(p.1++(p.2++Rx.flatP r)).length
  rw [List.length_append,List.length_append,List.length_cons]
  omega
theorem parts_words {p:List Nat × List Nat} {ps:List (List Nat × List Nat)} (h:Rx.PairsOk ps) (hw:∀ c∈p.1,Rx.isWs c=true) (ht:∀ c∈p.2,Rx.isWs c=false) (hn:p.2≠[]):pairsL (partsOf (Rx.flatP (p :: ps)))=p :: ps:=by
 obtain ⟨g,u⟩:=p
 unfold partsOf Rx.splitL
 cases g with
 | nil =>
  have e:=Rx.splitGo_words ps u [] (Rx.flatP (([],u) :: ps)).length h ht (by
   have:=flatP_len h
   show _≤([]++(u++Rx.flatP ps)).length
   rw [List.nil_append,List.length_append]; omega)
  rw [show ([]:List Nat)++(u++Rx.flatP ps)=Rx.flatP (([],u) :: ps) from rfl,show ([]:List Nat).length=0 from rfl] at e
  rw [e]
  have:((u :: Rx.listP ps).getD 0 []).isEmpty=false:=by
   cases u with
   | nil=>exact absurd rfl hn
   | cons a b=>rfl
  rw [this]
  show pairsL ([] :: u :: Rx.listP ps)=_
  show ([],u) :: pairsL (Rx.listP ps)=_
  rw [pairsL_listP]
 | cons a b =>
  have ok:Rx.PairsOk ((a :: b,u) :: ps):=⟨fun q hq=>by
    rcases List.mem_cons.mp hq with r | r
    ·subst r; exact hw
    ·exact h.ws q r,fun q hq=>by
    rcases List.mem_cons.mp hq with r | r
    ·subst r; exact ht
    ·exact h.tx q r,fun q hq=>by
    rcases List.mem_cons.mp hq with r | r
    ·subst r; simp
    ·exact h.n1 q r,fun q hq=>by
    rcases List.mem_cons.mp hq with r | r
    ·subst r; exact hn
    ·exact h.n2 q r⟩
  have e:=Rx.splitGo_words ((a :: b,u) :: ps) [] [] (Rx.flatP ((a :: b,u) :: ps)).length ok (fun c hc=>by cases hc) (flatP_len ok)
  rw [List.nil_append,List.nil_append,show ([]:List Nat).length=0 from rfl] at e
  rw [e]
  show pairsL (Rx.listP ((a :: b,u) :: ps))=_
  rw [pairsL_listP]
end SP1b
section SP1c
abbrev w0:Word:=⟨[],[],[]⟩
def Word.lst (w:Word):Nat:=w.text.getD (w.text.length - 1) 0
structure WOk (alts:List Nat) (w:Word):Prop where
 gws:∀ c∈w.gap,Rx.isWs c=true
 gl:w.gap.length≤5
 tws:∀ c∈w.text,Rx.isWs c=false
 tnl:10∉w.text
 tlen:w.text.length=(w.octs.length + 2) / 3 * 4
 tne:w.text≠[]
 tl2:w.text.length≤50
 last:lastOf w.octs alts=[w.lst]∨(lastOf w.octs alts=[]∧w.lst∈tab64)
 sp:Unicode.isSpace w.lst=false
theorem isWs_iff {c:Nat}:Rx.isWs c=true↔c=32∨c=9:=by unfold Rx.isWs; simp
theorem getD_mem {l:List Nat} {i d:Nat} (h:i < l.length):l.getD i d∈l:=by
 rw [List.getD_eq_getElem?_getD,List.getElem?_eq_getElem h]; exact List.getElem_mem h
theorem WOk.lst_ws {alts:List Nat} {w:Word} (h:WOk alts w):Rx.isWs w.lst=false:=by
 have:w.text.length≠0:=fun q=>h.tne (List.eq_nil_of_length_eq_zero q)
 exact h.tws _ (getD_mem (by omega))
theorem WOk.hd_ws {alts:List Nat} {w:Word} (h:WOk alts w) (hg:w.gap≠[]):Rx.isWs (w.gap.getD 0 0)=true:=by
 have:w.gap.length≠0:=fun q=>hg (List.eq_nil_of_length_eq_zero q)
 exact h.gws _ (getD_mem (by omega))
structure ROk (alts:List Nat) (row:List Word):Prop where
 all:∀ w∈row,WOk alts w
 gap:∀ i,i + 1 < row.length→(row.getD (i + 1) w0).gap≠[]
theorem row_in {row:List Word} {i:Nat} (h:i < row.length):row.getD i w0∈row:=by
 rw [List.getD_eq_getElem?_getD,List.getElem?_eq_getElem h]; exact List.getElem_mem h
def lastP (p:Nat→Bool):Nat→Nat
 | 0=>0
 | i + 1=>if p i then i + 1 else lastP p i
theorem lastP_congr {p q:Nat→Bool}:∀ {n:Nat},(∀ i,i < n→p i=q i)→lastP p n=lastP q n
 | 0,_=>rfl
 | n + 1,h=>by
  unfold lastP
  rw [h n (by omega),lastP_congr fun i hi=>h i (by omega)]
theorem lastP_le {p:Nat→Bool}:∀ n,lastP p n≤n
 | 0=>Nat.le_refl _
 | n + 1=>by
  unfold lastP
  split
  ·exact Nat.le_refl _
  ·exact Nat.le_succ_of_le (lastP_le n)
theorem lastP_filter {p:Nat→Bool}:∀ n:Nat,(match ((List.range n).filter p).getLast? with | some i=>i + 1 | none=>0)=lastP p n
 | 0=>rfl
 | n + 1=>by
  rw [List.range_succ,List.filter_append]
  unfold lastP
  cases h:p n with
  | true=>rw [List.filter_cons_of_pos h]; simp
  | false=>rw [List.filter_cons_of_neg (by rw [h]; decide),List.filter_nil,List.append_nil,lastP_filter n,if_neg (by decide)]
abbrev pairOf (w:Word):List Nat × List Nat:=(w.gap,w.text)
theorem pair_getD {row:List Word} {i:Nat} (h:i < row.length):(row.map pairOf).getD i ([],[])=pairOf (row.getD i w0):=by
 rw [List.getD_eq_getElem?_getD,List.getD_eq_getElem?_getD,List.getElem?_map,List.getElem?_eq_getElem h]; rfl
theorem findI_lastP {ls:List (List Nat × List Nat)} {ch:Nat} {p:Nat→Bool}:∀ n,(∀ i,i < n→condAt ls ch (i + 1)=p i)→findI ls ch n=if lastP p n=0 then none else some (lastP p n)
 | 0,_=>rfl
 | n + 1,h=>by
  unfold findI lastP
  rw [h n (by omega),findI_lastP n fun i hi=>h i (by omega)]
  split
  ·rw [if_neg (by omega)]
  ·rfl
def SgOk (c:Nat):Prop:=c=32∨c=9∨(Rx.isWs c=false∧c∉tab64)
theorem cond_place {alts row:_} (h:ROk alts row) {c i:Nat} (hc:SgOk c) (hi:i + 1 < row.length):condAt (row.map pairOf) c (i + 1)=placeOk row c alts i:=by
 unfold condAt placeOk
 rw [pair_getD hi,show i + 1 - 1=i by omega,pair_getD (by omega)]
 have h1:=h.all _ (row_in (show i + 1 < row.length from hi))
 have h2:=h.all _ (row_in (show i < row.length by omega))
 have hg:=h.gap i hi
 have hl:=h2.lst_ws
 have hh:=h1.hd_ws hg
 have hlast:=h2.last
 generalize row.getD (i + 1) w0=u at *
 generalize row.getD i w0=v at *
 have e1:hdIs c u.gap=decide (u.gap.getD 0 0=c):=by
  unfold hdIs
  have:u.gap.isEmpty=false:=by cases q:u.gap with | nil=>exact absurd q hg | cons _ _=>rfl
  rw [this,Bool.not_false,Bool.true_and]
  by_cases q:u.gap.getD 0 0=c
  ·rw [decide_eq_true q,decide_eq_true (by rw [q])]
  ·rw [decide_eq_false q,decide_eq_false (fun e=>q (by simpa using e))]
 have e2:ltIs c v.text=decide (v.lst=c):=by
  unfold ltIs
  have:v.text.isEmpty=false:=by cases q:v.text with | nil=>exact absurd q h2.tne | cons _ _=>rfl
  rw [this,Bool.not_false,Bool.true_and]
  by_cases q:v.lst=c
  ·rw [decide_eq_true q]; unfold Word.lst at q; rw [decide_eq_true (by rw [q])]
  ·rw [decide_eq_false q]; unfold Word.lst at q; rw [decide_eq_false (fun e=>q (by simpa using e))]
 show (isSpaceL [c] && hdIs c u.gap || ltIs c v.text)=(decide (u.gap.getD 0 0=c) || decide (lastOf v.octs alts=[c]))
 rw [e1,e2]
 rcases hc with q | q | ⟨q1,q2⟩
 ·subst q
  have a1:isSpaceL [32]=true:=by decide +kernel
  have a2:v.lst≠32:=fun e=>by rw [e] at hl; exact absurd hl (by decide)
  have a3:lastOf v.octs alts≠[32]:=by
   rcases hlast with e | ⟨e,_⟩
   ·rw [e]; simpa using a2
   ·rw [e]; simp
  rw [a1,decide_eq_false a2,decide_eq_false a3,Bool.true_and]
 ·subst q
  have a1:isSpaceL [9]=true:=by decide +kernel
  have a2:v.lst≠9:=fun e=>by rw [e] at hl; exact absurd hl (by decide)
  have a3:lastOf v.octs alts≠[9]:=by
   rcases hlast with e | ⟨e,_⟩
   ·rw [e]; simpa using a2
   ·rw [e]; simp
  rw [a1,decide_eq_false a2,decide_eq_false a3,Bool.true_and]
 ·have a1:u.gap.getD 0 0≠c:=fun e=>by rw [e,q1] at hh; cases hh
  rw [decide_eq_false a1,Bool.and_false,Bool.false_or,Bool.false_or]
  rcases hlast with e | ⟨e,e'⟩
  ·rw [e]
   by_cases k:v.lst=c
   ·rw [decide_eq_true k,decide_eq_true (by rw [k])]
   ·rw [decide_eq_false k,decide_eq_false (fun e=>k (by simpa using e))]
  ·rw [e]
   have k:v.lst≠c:=fun k=>q2 (k ▸ e')
   rw [decide_eq_false k,decide_eq_false (by simp)]
theorem byOctets_lastP {row:List Word} {c:Nat} {alts:List Nat}:byOctets row c alts=lastP (placeOk row c alts) (row.length - 1):=by
 unfold byOctets; exact lastP_filter _
theorem find_octets {alts row:_} (h:ROk alts row) {c:Nat} (hc:SgOk c):findI (row.map pairOf) c ((row.map pairOf).length - 1)=if byOctets row c alts=0 then none else some (byOctets row c alts):=by
 rw [byOctets_lastP,List.length_map]
 exact findI_lastP _ fun i hi=>cond_place h hc (by omega)
def ff (s0 s1:CSet):List Nat→Option Nat
 | a :: b :: r=>if s0.fits a && s1.fits b then some 0 else (ff s0 s1 (b :: r)).map (· + 1)
 | _=>none
theorem ff_eq {s0 s1:CSet}:∀ l:List Nat,(List.range (l.length - 1)).find? (fun i=>s0.fits (l.getD i 0) && s1.fits (l.getD (i + 1) 0))=ff s0 s1 l
 | []=>rfl
 | [_]=>rfl
 | a :: b :: r=>by
  have ih:=ff_eq (s0:=s0) (s1:=s1) (b :: r)
  unfold ff
  rw [← ih]
  show (List.range (r.length + 1)).find? _=_
  rw [List.range_succ_eq_map,List.find?_cons]
  show (match (s0.fits a && s1.fits b) with | true=>some 0 | false=>_)=_
  cases s0.fits a && s1.fits b with
  | true=>rfl
  | false =>
   rw [List.find?_map]
   rfl
theorem ff_cons2 {s0 s1:CSet} {a b:Nat} {r:List Nat}:ff s0 s1 (a :: b :: r)=if s0.fits a && s1.fits b then some 0 else (ff s0 s1 (b :: r)).map (· + 1):=rfl
theorem lastP_succ {p:Nat→Bool} {i:Nat}:lastP p (i + 1)=if p i then i + 1 else lastP p i:=rfl
theorem ff_skip {s0 s1:CSet} {r:List Nat}:∀ t:List Nat,(∀ c∈t,s0.fits c=false)→ff s0 s1 (t++r)=(ff s0 s1 r).map (· + t.length)
 | [],_=>by simp
 | c :: t,h=>by
  have ih:=ff_skip (s1:=s1) (r:=r) t fun x hx=>h x (List.mem_cons_of_mem _ hx)
  have hc:=h c List.mem_cons_self
  rw [List.cons_append]
  cases hq:t++r with
  | nil =>
   have:r=[]:=(List.append_eq_nil_iff.mp hq).2
   subst this; rfl
  | cons b q =>
   rw [ff_cons2,hc,Bool.false_and,if_neg (by decide),← hq,ih,Option.map_map]
   congr 1
theorem ff_gap {s0 s1:CSet} {x:Nat} {r:List Nat} (hx:s1.fits x=false):∀ g:List Nat,(∀ c∈g,s1.fits c=false)→ff s0 s1 (g++x :: r)=(ff s0 s1 (x :: r)).map (· + g.length)
 | [],_=>by simp
 | c :: g,h=>by
  have ih:=ff_gap (s0:=s0) (r:=r) hx g fun y hy=>h y (List.mem_cons_of_mem _ hy)
  have hb:∃ b q,g++x :: r=b :: q∧s1.fits b=false:=by
   cases g with
   | nil=>exact ⟨x,r,rfl,hx⟩
   | cons b q=>exact ⟨b,q++x :: r,rfl,h b (List.mem_cons_of_mem _ List.mem_cons_self)⟩
  obtain ⟨b,q,hq,hbf⟩:=hb
  rw [List.cons_append,hq]
  rw [ff_cons2,hbf,Bool.and_false,if_neg (by decide),← hq,ih,Option.map_map]
  congr 1
structure RlOk (s0 s1:CSet):Prop where
 a:∀ c,Rx.isWs c=false→s0.fits c=false
 b:∀ c,Rx.isWs c=true→s1.fits c=false
def patAt (s0 s1:CSet) (row:List Word) (i:Nat):Bool:=s0.fits ((row.getD (i + 1) w0).gap.getD 0 0) && s1.fits (row.getD i w0).lst
theorem lineOf_app (a b:List Word):lineOf (a++b)=lineOf a++lineOf b:=by unfold lineOf; simp
theorem lineOf_one (w:Word):lineOf [w]=w.gap++w.text:=by unfold lineOf; simp
theorem back_snoc (row:List Word) (w:Word):backOf (row++[w])=w.text.reverse++(w.gap.reverse++backOf row):=by
 unfold backOf; rw [lineOf_app,lineOf_one]; simp
theorem getD_app_left {row:List Word} {w:Word} {i:Nat} (h:i < row.length):(row++[w]).getD i w0=row.getD i w0:=by
 rw [List.getD_eq_getElem?_getD,List.getD_eq_getElem?_getD,List.getElem?_append_left h]
theorem getD_app_last {row:List Word} {w:Word}:(row++[w]).getD row.length w0=w:=by
 rw [List.getD_eq_getElem?_getD]; simp
theorem ROk.left {alts:List Nat} {a b:List Word} (h:ROk alts (a++b)):ROk alts a :=
 ⟨fun w hw=>h.all w (List.mem_append_left _ hw),fun i hi=>by
  have:=h.gap i (by rw [List.length_append]; omega)
  rwa [List.getD_eq_getElem?_getD,List.getElem?_append_left hi,← List.getD_eq_getElem?_getD] at this⟩
theorem snoc_cases {α:Type} (l:List α):l=[]∨∃ r e,l=r++[e]:=by
 rcases List.eq_nil_or_concat l with h | ⟨r,e,h⟩
 ·exact .inl h
 ·exact .inr ⟨r,e,by rw [h,List.concat_eq_append]⟩
theorem ff_row {alts:List Nat} {s0 s1:CSet} (hr:RlOk s0 s1):∀ (n:Nat) (row:List Word),row.length=n→ROk alts row →
  match lastP (patAt s0 s1 row) (row.length - 1) with
  | 0=>ff s0 s1 (backOf row)=none
  | i + 1=>∃ at_,ff s0 s1 (backOf row)=some at_∧at_ + 1 + (lineOf (row.take (i + 1))).length=(lineOf row).length
 | 0,row,hn,_=>by
  have:row=[]:=List.eq_nil_of_length_eq_zero hn
  subst this; rfl
 | n + 1,row,hn,h=>by
  rcases snoc_cases row with q | ⟨r,w,q⟩
  ·rw [q] at hn; cases hn
  ·subst q
   have hrl:r.length=n:=by simpa using hn
   have hw:=h.all w (by simp)
   have htx:∀ c∈w.text.reverse,s0.fits c=false:=fun c hc=>hr.a c (hw.tws c (List.mem_reverse.mp hc))
   rw [back_snoc,ff_skip _ htx]
   rcases snoc_cases r with q | ⟨r',v,q⟩
   ·subst q
    show ff s0 s1 (w.gap.reverse++[]) |>.map _ |> (· = none)
    rw [List.append_nil]
    have:ff s0 s1 w.gap.reverse=none:=by
     have hg:∀ c∈w.gap.reverse,s1.fits c=false:=fun c hc=>hr.b c (hw.gws c (List.mem_reverse.mp hc))
     generalize w.gap.reverse=g at hg
     induction g with
     | nil=>rfl
     | cons a g ih =>
      cases g with
      | nil=>rfl
      | cons b g =>
       unfold ff
       rw [hg b (List.mem_cons_of_mem _ List.mem_cons_self),Bool.and_false,if_neg (by decide),ih fun c hc=>hg c (List.mem_cons_of_mem _ hc)]
       rfl
    rw [this]; rfl
   ·have ih:=ff_row hr n r hrl h.left
    have hrne:r.length≠0:=by rw [q]; simp
    have hgap:w.gap≠[]:=by
     have:=h.gap (r.length - 1) (by simp; omega)
     rw [show r.length - 1 + 1=r.length by omega,getD_app_last] at this
     exact this
    obtain ⟨x,g,hxg⟩:∃ x g,w.gap=x :: g:=by
     cases e:w.gap with
     | nil=>exact absurd e hgap
     | cons x g=>exact ⟨x,g,rfl⟩
    have hgf:∀ c∈g.reverse,s1.fits c=false:=fun c hc=>hr.b c (hw.gws c (by rw [hxg]; exact List.mem_cons_of_mem _ (List.mem_reverse.mp hc)))
    have hxf:s1.fits x=false:=hr.b x (hw.gws x (by rw [hxg]; exact List.mem_cons_self))
    rw [show w.gap.reverse++backOf r=g.reverse++x :: backOf r by rw [hxg]; simp,ff_gap hxf _ hgf]
    have hv:=h.all v (by rw [q]; simp)
    obtain ⟨tl,htl⟩:∃ tl,backOf r=v.lst :: tl:=by
     rw [q,back_snoc]
     rcases snoc_cases v.text with e | ⟨t',z,e⟩
     ·exact absurd e hv.tne
     ·refine ⟨t'.reverse++(v.gap.reverse++backOf r'),?_⟩
      unfold Word.lst
      rw [e]
      simp
    have hlst:r.getD (r.length - 1) w0=v:=by rw [q]; simp
    have hstep:ff s0 s1 (x :: backOf r)=if s0.fits x && s1.fits v.lst then some 0 else (ff s0 s1 (backOf r)).map (· + 1):=by
     rw [htl]; rfl
    have hP:patAt s0 s1 (r++[w]) (r.length - 1)=(s0.fits x && s1.fits v.lst):=by
     unfold patAt
     rw [show r.length - 1 + 1=r.length by omega,getD_app_last,getD_app_left (by omega),hlst,hxg]
     rfl
    have hlow:lastP (patAt s0 s1 (r++[w])) (r.length - 1)=lastP (patAt s0 s1 r) (r.length - 1):=by
     refine lastP_congr fun i hi=>?_
     unfold patAt
     rw [getD_app_left (by omega),getD_app_left (by omega)]
    have hN:lastP (patAt s0 s1 (r++[w])) ((r++[w]).length - 1)=if (s0.fits x && s1.fits v.lst)=true then r.length else lastP (patAt s0 s1 r) (r.length - 1):=by
     rw [show (r++[w]).length - 1=(r.length - 1) + 1 by simp; omega]
     rw [lastP_succ,hP,hlow,show r.length - 1 + 1=r.length by omega]
    rw [hN,hstep]
    have hll:(lineOf (r++[w])).length=(lineOf r).length + (1 + g.length + w.text.length):=by
     rw [lineOf_app,lineOf_one,hxg]; simp; omega
    cases hc:s0.fits x && s1.fits v.lst with
    | true =>
     rw [if_pos rfl,if_pos rfl]
     obtain ⟨k,hk⟩:=Nat.exists_eq_succ_of_ne_zero hrne
     rw [hk]
     refine ⟨_,rfl,?_⟩
     rw [show k + 1=r.length from hk.symm,List.take_left,hll]
     simp
     omega
    | false =>
     rw [if_neg (by decide),if_neg (by decide)]
     generalize hL:lastP (patAt s0 s1 r) (r.length - 1)=L at ih ⊢
     have hLle:L≤r.length - 1:=hL ▸ lastP_le _
     cases L with
     | zero =>
      dsimp only at ih ⊢
      rw [ih]; rfl
     | succ i =>
      dsimp only at ih ⊢
      obtain ⟨at_,e1,e2⟩:=ih
      rw [e1]
      refine ⟨_,rfl,?_⟩
      rw [List.take_append_of_le_length (by omega),hll]
      simp
      omega
theorem ahead_take {alts:List Nat}:∀ (l r:List Word) (k:Nat),(∀ w∈l,WOk alts w)→aheadGo (l++r) (lineOf l).length k=k + l.length
 | [],r,k,_=>by
  cases r with
  | nil=>rfl
  | cons w r=>rfl
 | w :: l,r,k,h=>by
  have hw:=h w List.mem_cons_self
  have h1:w.text.length≠0:=fun q=>hw.tne (List.eq_nil_of_length_eq_zero q)
  have ih:=ahead_take l r (k + 1) fun x hx=>h x (List.mem_cons_of_mem _ hx)
  have hl:(lineOf (w :: l)).length=w.gap.length + w.text.length + (lineOf l).length:=by
   rw [show w :: l=[w]++l from rfl,lineOf_app,lineOf_one]; simp; omega
  rw [List.cons_append]
  unfold aheadGo
  rw [if_pos (by rw [hl]; omega),show ((lineOf (w :: l)).length:Int) - ((w.gap.length + w.text.length:Nat):Int)=((lineOf l).length:Nat) by rw [hl]; omega,ih,List.length_cons]
  omega
theorem byPattern_lastP {alts:List Nat} {s0 s1:CSet} (hr:RlOk s0 s1) {row:List Word} (h:ROk alts row):byPattern row s0 s1=lastP (patAt s0 s1 row) (row.length - 1):=by
 unfold byPattern
 have e:(List.range ((backOf row).length - 1)).find? (fitsAt row s0 s1)=ff s0 s1 (backOf row):=ff_eq _
 rw [e]
 have:=ff_row hr row.length row rfl h
 generalize hL:lastP (patAt s0 s1 row) (row.length - 1)=L at this
 have hLle:L≤row.length - 1:=hL ▸ lastP_le _
 cases L with
 | zero=>dsimp only at this; rw [this]
 | succ i =>
  obtain ⟨at_,e1,e2⟩:=this
  rw [e1]
  have hb:(backOf row).length=(lineOf row).length:=by unfold backOf; simp
  show aheadGo row _ 0=_
  rw [show ((backOf row).length - at_ - 1:Int)=((lineOf (row.take (i + 1))).length:Nat) by rw [hb]; omega]
  have:=ahead_take (alts:=alts) (row.take (i + 1)) (row.drop (i + 1)) 0 fun w hw=>h.all w (List.mem_of_mem_take hw)
  rw [List.take_append_drop] at this
  rw [this,List.length_take]
  omega
end SP1c
section SP1d
structure RuleFits (alts:List Nat) (r:Rule):Prop where
 sg:SgOk r.sign
 rl:RlOk r.s0 r.s1
 at_:∀ u v:Word,WOk alts u→WOk alts v→u.gap≠[]→(r.s0.fits (u.gap.getD 0 0) && r.s1.fits v.lst)=(decide (u.gap.getD 0 0=r.sign) || decide (lastOf v.octs alts=[r.sign]))
theorem one_place {alts:List Nat} {row:List Word} {r:Rule} (h:ROk alts row) (hr:RuleFits alts r) (turned:Bool):onePlace row alts turned r=byOctets row r.sign alts:=by
 cases turned with
 | false=>rfl
 | true =>
  show byPattern row r.s0 r.s1=_
  rw [byPattern_lastP hr.rl h,byOctets_lastP]
  refine lastP_congr fun i hi=>?_
  exact hr.at_ _ _ (h.all _ (row_in (by omega))) (h.all _ (row_in (by omega))) (h.gap i (by omega))
theorem place_eq {alts:List Nat} {row:List Word} (h:ROk alts row) (turned:Bool):∀ rules:List Rule,(∀ r∈rules,RuleFits alts r) →
  findS (row.map pairOf) (rules.map Rule.sign)=if placeOf row rules alts turned=0 then none else some (placeOf row rules alts turned)
 | [],_=>rfl
 | r :: rs,hr=>by
  have h1:=one_place h (hr r List.mem_cons_self) turned
  have h2:=find_octets h (hr r List.mem_cons_self).sg
  have ih:=place_eq h turned rs fun x hx=>hr x (List.mem_cons_of_mem _ hx)
  show (match findI (row.map pairOf) r.sign ((row.map pairOf).length - 1) with | some i=>some i | none=>findS (row.map pairOf) (rs.map Rule.sign))=_
  rw [h2]
  have e:placeOf row (r :: rs) alts turned=if 0 < byOctets row r.sign alts then byOctets row r.sign alts else placeOf row rs alts turned:=by
   unfold placeOf
   rw [List.map_cons,List.find?_cons,h1]
   by_cases q:0 < byOctets row r.sign alts
   ·rw [decide_eq_true q,if_pos q]; rfl
   ·rw [decide_eq_false q,if_neg q]
  rw [e]
  by_cases q:byOctets row r.sign alts=0
  ·rw [if_pos q,if_neg (show ¬ 0 < byOctets row r.sign alts by omega)]; exact ih
  ·rw [if_neg q,if_pos (show 0 < byOctets row r.sign alts by omega),if_neg q]
theorem place_lt {alts:List Nat} {row:List Word} (h:ROk alts row) (turned:Bool) {rules:List Rule} (hr:∀ r∈rules,RuleFits alts r):placeOf row rules alts turned≤row.length - 1:=by
 unfold placeOf
 cases q:(rules.map (onePlace row alts turned)).find? (fun i=>decide (0 < i)) with
 | none=>exact Nat.zero_le _
 | some i =>
  have hm:=List.mem_of_find?_eq_some q
  obtain ⟨r,hr1,e⟩:=List.mem_map.mp hm
  rw [one_place h (hr r hr1),byOctets_lastP] at e
  show i≤_
  rw [← e]
  exact lastP_le _
theorem accStr_pairs (row:List Word):accStr (row.map pairOf)=lineOf row:=by
 unfold accStr lineOf
 rw [List.map_map]; rfl
theorem accLen_pairs {alts:List Nat} (init:Int) (row:List Word) (h:∀ w∈row,WOk alts w):accLen init (row.map pairOf)=init + (sizeOf_ row:Nat):=by
 unfold accLen sizeOf_
 rw [List.map_map]
 congr 1
 induction row with
 | nil=>rfl
 | cons w r ih =>
  have hw:=(h w List.mem_cons_self).tlen
  have ih:=ih fun x hx=>h x (List.mem_cons_of_mem _ hx)
  simp only [List.map_cons,List.sum_cons,Function.comp] at ih ⊢
  rw [ih]
  unfold Word.size
  rw [← hw]
  omega
theorem nlLs_pairs {alts:List Nat} {row:List Word} (h:∀ w∈row,WOk alts w):accStr (nlLs (row.map pairOf))=lineOf row∧(row≠[]→nlLs (row.map pairOf)=row.map pairOf)∧accLen 0 (nlLs (row.map pairOf))=accLen 0 (row.map pairOf):=by
 rcases snoc_cases row with q | ⟨r,w,q⟩
 ·subst q; exact ⟨rfl,fun e=>absurd rfl e,rfl⟩
 ·have hw:=h w (by rw [q]; simp)
  have e:nlLs (row.map pairOf)=row.map pairOf:=by
   rw [q]
   unfold nlLs
   rw [List.map_append,List.map_singleton,List.getLast?_concat]
   dsimp only
   rw [if_neg (by intro e; exact hw.tne (congrArg Prod.snd e))]
  rw [e]
  exact ⟨accStr_pairs row,fun _=>rfl,rfl⟩
theorem accLen_add (init:Int) (ls:List (List Nat × List Nat)):accLen init ls=init + accLen 0 ls:=by unfold accLen; omega
theorem accLen_nn (ls:List (List Nat × List Nat)):0≤accLen 0 ls:=by
 unfold accLen
 induction ls with
 | nil=>exact Int.le_refl _
 | cons p r ih=>simp only [List.map_cons,List.sum_cons] at ih ⊢; omega
structure Rel (st:VSt) (rs:RowsSt):Prop where
 l:st.1=rs.rows.map lineOf
 i:st.2.1=(rs.head:Nat)
 r:st.2.2=rs.row.map pairOf
theorem fix_pair (w:Word):pairOf w.fix=(if w.gap=[] then [32] else w.gap,w.text):=by
 unfold Word.fix pairOf
 cases w.gap <;> rfl
theorem rel_step {width:Int} {alts:List Nat} {rules:List Rule} {turned:Bool} (hr:∀ r∈rules,RuleFits alts r) {st:VSt} {rs:RowsSt} {w:Word} (h:Rel st rs) (ok:ROk alts (rs.row++[w])) :
  Rel (chunk width (rules.map Rule.sign) st w.gap w.text) (rowStep width rules alts turned rs w):=by
 obtain ⟨lines,init,ls⟩:=st
 obtain ⟨rows,row,head⟩:=rs
 obtain ⟨h1,h2,h3⟩:=h
 dsimp only at h1 h2 h3 ok
 subst h1; subst h2; subst h3
 have e1:row.map pairOf++[(w.gap,w.text)]=(row++[w]).map pairOf:=by rw [List.map_append]; rfl
 have e2:accLen (head:Int) ((row++[w]).map pairOf)=((head + sizeOf_ (row++[w]):Nat):Int):=by
  rw [accLen_pairs _ _ ok.all]; omega
 have hp:=place_eq ok turned rules hr
 unfold chunk rowStep
 dsimp only
 rw [e1,e2,hp]
 by_cases hc:((head + sizeOf_ (row++[w]):Nat):Int) > width
 ·rw [if_pos hc,if_pos hc]
  generalize placeOf (row++[w]) rules alts turned=i
  by_cases hi:i=0
  ·subst hi
   rw [if_pos rfl,if_neg (show ¬ (0 < 0) by decide)]
   dsimp only
   by_cases hh:0 < head
   ·rw [if_pos (by omega),if_pos hh]
    have hrow:∀ x∈row,WOk alts x:=fun x hx=>ok.all x (List.mem_append_left _ hx)
    have hn:=nlLs_pairs hrow
    refine ⟨?_,rfl,?_⟩
    ·show nlLines _ _ _=_
     unfold nlLines
     rw [if_pos (by rw [accLen_add]; have:=accLen_nn (nlLs (row.map pairOf)); omega),hn.1,List.dropLast_concat,List.map_append]
     rfl
    ·show [_]=_
     rw [← fix_pair]; rfl
   ·rw [if_neg (by omega),if_neg hh]
    exact ⟨rfl,rfl,rfl⟩
  ·rw [if_neg hi,if_pos (show 0 < i by omega)]
   refine ⟨?_,rfl,?_⟩
   ·show _++[_]=_
    rw [← List.map_take,accStr_pairs,List.map_append]; rfl
   ·show List.drop _ _=_
    rw [← List.map_drop]
 ·rw [if_neg hc,if_neg hc]
  exact ⟨rfl,rfl,rfl⟩
theorem WOk.fixed {alts:List Nat} {w:Word} (h:WOk alts w):WOk alts w.fix:=by
 refine ⟨?_,?_,h.tws,h.tnl,h.tlen,h.tne,h.tl2,h.last,h.sp⟩
 ·unfold Word.fix
  dsimp only
  split
  ·intro c hc; simp at hc; subst hc; rfl
  ·exact h.gws
 ·unfold Word.fix
  dsimp only
  split
  ·decide
  ·exact h.gl
theorem ROk.drp {alts:List Nat} {row:List Word} (h:ROk alts row) (i:Nat):ROk alts (row.drop i):=by
 refine ⟨fun w hw=>h.all w (List.mem_of_mem_drop hw),fun j hj=>?_⟩
 rw [List.length_drop] at hj
 have:=h.gap (i + j) (by omega)
 rw [List.getD_eq_getElem?_getD] at this ⊢
 rw [List.getElem?_drop,show i + (j + 1)=i + j + 1 by omega]
 exact this
structure Inv (alts:List Nat) (rs:RowsSt) (rest:List Word):Prop where
 ok:ROk alts (rs.row++rest)
 rows:∀ r∈rs.rows,r.length≤40∧∀ w∈r,WOk alts w
 len:rs.row.length + rest.length≤40
 many:rs.rows.length + rest.length≤40
 head:rs.head≤1000
theorem Inv.step {width:Int} {alts:List Nat} {rules:List Rule} {turned:Bool} (hr:∀ r∈rules,RuleFits alts r) {rs:RowsSt} {w:Word} {rest:List Word} (h:Inv alts rs (w :: rest)) :
  Inv alts (rowStep width rules alts turned rs w) rest∧(rowStep width rules alts turned rs w).row≠[]:=by
 obtain ⟨rows,row,head⟩:=rs
 obtain ⟨h1,h2,h3,h4,h5⟩:=h
 dsimp only at h1 h2 h3 h4 h5
 rw [List.length_cons] at h3 h4
 have hok:ROk alts ((row++[w])++rest):=by rw [List.append_assoc]; exact h1
 have hok1:ROk alts (row++[w]):=hok.left
 have hpl:=place_lt hok1 turned hr
 have keep:Inv alts ⟨rows,row++[w],head⟩ rest:=⟨hok,h2,by simp; omega,by dsimp only; omega,h5⟩
 unfold rowStep
 dsimp only
 split
 ·generalize placeOf (row++[w]) rules alts turned=i at hpl
  rw [List.length_append,List.length_singleton] at hpl
  split
  ·refine ⟨⟨?_,?_,?_,?_,by dsimp only; omega⟩,?_⟩
   ·have:=hok.drp i
    rwa [List.drop_append_of_le_length (by rw [List.length_append,List.length_singleton]; omega)] at this
   ·intro r hr'
    rcases List.mem_append.mp hr' with q | q
    ·exact h2 r q
    ·rw [List.mem_singleton] at q; subst q
     exact ⟨by rw [List.length_take,List.length_append,List.length_singleton]; omega,fun x hx=>hok1.all x (List.mem_of_mem_take hx)⟩
   ·simp; omega
   ·simp; omega
   ·intro e
    have:=congrArg List.length e
    simp at this
    omega
  ·split
   ·refine ⟨⟨?_,?_,?_,?_,by dsimp only; omega⟩,by simp⟩
    ·have hd:=h1.drp row.length
     rw [List.drop_left] at hd
     refine ⟨fun x hx=>?_,fun j hj=>?_⟩
     ·rcases List.mem_cons.mp hx with q | q
      ·subst q; exact (hd.all w List.mem_cons_self).fixed
      ·exact hd.all x (List.mem_cons_of_mem _ q)
     ·exact hd.gap j hj
    ·intro r hr'
     rcases List.mem_append.mp hr' with q | q
     ·exact h2 r q
     ·rw [List.mem_singleton] at q; subst q
      rw [List.dropLast_concat]
      exact ⟨by omega,fun x hx=>hok1.all x (List.mem_append_left _ hx)⟩
    ·simp; omega
    ·simp; omega
   ·exact ⟨keep,by simp⟩
 ·exact ⟨keep,by simp⟩
theorem rel_all {width:Int} {alts:List Nat} {rules:List Rule} {turned:Bool} (hr:∀ r∈rules,RuleFits alts r):∀ (ws:List Word) (st:VSt) (rs:RowsSt),Rel st rs→Inv alts rs ws →
  Rel (chunks width (rules.map Rule.sign) st (ws.map pairOf)) (ws.foldl (rowStep width rules alts turned) rs)∧Inv alts (ws.foldl (rowStep width rules alts turned) rs) []∧ChOk width (rules.map Rule.sign) st (ws.map pairOf)
 | [],st,rs,h,hi=>⟨h,hi,trivial⟩
 | w :: ws,st,rs,h,hi=>by
  have ok1:ROk alts (rs.row++[w]):=by
   have:ROk alts ((rs.row++[w])++ws):=by rw [List.append_assoc]; exact hi.ok
   exact this.left
  have h1:=rel_step (width:=width) (turned:=turned) hr h ok1
  have h2:=(hi.step (width:=width) (turned:=turned) hr).1
  obtain ⟨a,b,c⟩:=rel_all hr ws _ _ h1 h2
  refine ⟨a,b,?_,?_,c⟩
  ·have hh:=hi.head
   have hl:=hi.len
   rw [List.length_cons] at hl
   refine ⟨by rw [h.i]; omega,by rw [h.i]; omega,by rw [h.r]; simp; omega,fun p hp=>?_⟩
   rw [h.r,show rs.row.map pairOf++[(w.gap,w.text)]=(rs.row++[w]).map pairOf by rw [List.map_append]; rfl] at hp
   obtain ⟨x,hx,rfl⟩:=List.mem_map.mp hp
   have:=ok1.all x hx
   have h3:=this.gl
   have h4:=this.tl2
   show x.gap.length + x.text.length≤1000
   omega
  ·have:=hi.many
   rw [h.l,List.length_map]
   omega
theorem foldl_ne {width:Int} {alts:List Nat} {rules:List Rule} {turned:Bool} (hr:∀ r∈rules,RuleFits alts r):∀ (ws:List Word) (rs:RowsSt),Inv alts rs ws→(ws≠[]∨rs.row≠[])→(ws.foldl (rowStep width rules alts turned) rs).row≠[]
 | [],rs,_,h=>by rcases h with h | h; exact absurd rfl h; exact h
 | w :: ws,rs,hi,_=>by
  have:=hi.step (width:=width) (turned:=turned) hr
  exact foldl_ne hr ws _ this.1 (.inr this.2)
theorem join_ofL (L:List (List Nat)):Str.join (ofL [10]) (L.map ofL)=ofL (joinL [10] L):=by
 induction L with
 | nil=>rfl
 | cons x r ih =>
  cases r with
  | nil=>rfl
  | cons y r =>
   show ofL x++ofL [10]++Str.join (ofL [10]) ((y :: r).map ofL)=_
   rw [ih,ofL_app,ofL_app]; rfl
theorem joinL_inj:∀ (L M:List (List Nat)),L≠[]→M≠[]→(∀ l∈L,10∉l)→(∀ l∈M,10∉l)→joinL [10] L=joinL [10] M→L=M:=by
 have cut:∀ (a b x y:List Nat),10∉a→10∉b→a++10 :: x=b++10 :: y→a=b∧x=y:=by
  intro a
  induction a with
  | nil =>
   intro b x y _ hb e
   cases b with
   | nil=>simp at e; exact ⟨rfl,e⟩
   | cons c b=>simp at e; exact absurd (by rw [e.1]; simp) hb
  | cons d a ih =>
   intro b x y ha hb e
   cases b with
   | nil=>simp at e; exact absurd (by rw [← e.1]; simp) ha
   | cons c b =>
    simp only [List.cons_append,List.cons.injEq] at e
    obtain ⟨h1,h2⟩:=ih b x y (fun h=>ha (List.mem_cons_of_mem _ h)) (fun h=>hb (List.mem_cons_of_mem _ h)) e.2
    exact ⟨by rw [e.1,h1],h2⟩
 have e2:∀ (a b:List Nat) (r:List (List Nat)),joinL [10] (a :: b :: r)=a++10 :: joinL [10] (b :: r):=fun a b r=>by
  show a++[10]++joinL [10] (b :: r)=_
  simp
 intro L
 induction L with
 | nil=>intro M h; exact absurd rfl h
 | cons a L ih =>
  intro M _ hM hL hMn e
  cases M with
  | nil=>exact absurd rfl hM
  | cons b M =>
   cases L with
   | nil =>
    cases M with
    | nil=>exact congrArg (fun z=>[z]) e
    | cons c M =>
     rw [e2] at e
     have:a=b++10 :: joinL [10] (c :: M):=e
     exact absurd (by rw [this]; simp) (hL a List.mem_cons_self)
   | cons d L =>
    cases M with
    | nil =>
     rw [e2] at e
     have:a++10 :: joinL [10] (d :: L)=b:=e
     exact absurd (by rw [← this]; simp) (hMn b List.mem_cons_self)
    | cons c M =>
     rw [e2,e2] at e
     obtain ⟨h1,h2⟩:=cut _ _ _ _ (hL a List.mem_cons_self) (hMn b List.mem_cons_self) e
     rw [h1,ih (c :: M) (by simp) (by simp) (fun l hl=>hL l (List.mem_cons_of_mem _ hl)) (fun l hl=>hMn l (List.mem_cons_of_mem _ hl)) h2]
theorem split_lines {L:List (List Nat)} (hne:L≠[]) (h:∀ l∈L,10∉l):(Txt.split (ofL (joinL [10] L)) (ofL [10])).map (fun s=>s.cps.toList)=L:=by
 have h1:=StrLaws.join_split (ofL (joinL [10] L)) (ofL [10])
 have h2:=StrLaws.split_free (ofL (joinL [10] L)) 10
 have e10:(ofL [10]:Str)=⟨#[10]⟩:=rfl
 rw [← e10] at h2
 have hSne:Txt.split (ofL (joinL [10] L)) (ofL [10])≠[]:=by
  unfold Txt.split
  split
  ·simp
  ·split
   ·simp
   ·rw [StrLaws.partsBetween_eq]
    obtain ⟨p,r,e⟩:=StrLaws.partsFrom_ne (ofL (joinL [10] L)) (ofL [10]).length 0 (Builtin.Str.occurrences (ofL (joinL [10] L)) (ofL [10]) 0 (ofL (joinL [10] L)).length ((ofL (joinL [10] L)).length + 1))
    rw [e]; simp
 generalize Txt.split (ofL (joinL [10] L)) (ofL [10])=S at h1 h2 hSne ⊢
 have hS:S=(S.map fun s=>s.cps.toList).map ofL:=by
  rw [List.map_map]
  conv=>lhs; rw [← List.map_id S]
  refine List.map_congr_left fun s _=>?_
  rfl
 rw [hS,join_ofL] at h1
 have h3:joinL [10] (S.map fun s=>s.cps.toList)=joinL [10] L:=by
  have:=congrArg (fun s:Str=>s.cps.toList) h1
  exact this
 exact joinL_inj _ _ (by simpa using hSne) hne (fun l hl=>by
  obtain ⟨s,hs,rfl⟩:=List.mem_map.mp hl
  exact h2 s hs) h h3
theorem line_nospace {alts:List Nat} {row:List Word} (h:∀ w∈row,WOk alts w) (hne:row≠[]):isSpaceL (lineOf row)=false:=by
 obtain ⟨w,r,q⟩:∃ w r,row=w :: r:=by
  cases row with
  | nil=>exact absurd rfl hne
  | cons w r=>exact ⟨w,r,rfl⟩
 have hw:=h w (by rw [q]; simp)
 have h0:w.text.length≠0:=fun e=>hw.tne (List.eq_nil_of_length_eq_zero e)
 have hm:w.lst∈lineOf row:=by
  rw [q,show w :: r=[w]++r from rfl,lineOf_app,lineOf_one]
  exact List.mem_append_left _ (List.mem_append_right _ (getD_mem (by omega)))
 unfold isSpaceL
 have:(lineOf row).all Unicode.isSpace=false:=by
  cases e:(lineOf row).all Unicode.isSpace with
  | false=>rfl
  | true =>
   have:=List.all_eq_true.mp e _ hm
   rw [hw.sp] at this; cases this
 rw [this,Bool.and_false]
theorem fold_law {width:Int} {alts:List Nat} {rules:List Rule} {name:Nat} {ws:List Word} (hr:∀ r∈rules,RuleFits alts r) (hw:ROk alts ws) (hl:ws.length≤40) (hne:ws≠[]) (hname:name≤1000) :
  ChOk width (rules.map Rule.sign) ([],(name:Int),[]) (ws.map pairOf) ∧
  let st:=chunks width (rules.map Rule.sign) ([],(name:Int),[]) (ws.map pairOf)
  AccSz st.2.1 st.2.2∧onlyWs st.2.1 (nlLs st.2.2)=false∧st.1.length≤40∧(∀ turned,nlLines st.1 st.2.1 st.2.2=rowsOf ws width name rules alts turned)∧nlLines st.1 st.2.1 st.2.2≠[]∧(nlLines st.1 st.2.1 st.2.2).length≤41∧∀ l∈nlLines st.1 st.2.1 st.2.2,l.length≤2200∧10∉l:=by
 have hi:Inv alts ⟨[],[],name⟩ ws:=⟨hw,(fun r h=>by cases h),by simpa using hl,by simpa using hl,hname⟩
 have hrel:Rel ([],(name:Int),[]) ⟨[],[],name⟩:=⟨rfl,rfl,rfl⟩
 have key:∀ turned,_:=fun turned=>rel_all (width:=width) (turned:=turned) hr ws _ _ hrel hi
 have kne:∀ turned,_:=fun turned=>foldl_ne (width:=width) (turned:=turned) hr ws _ hi (.inl hne)
 refine ⟨(key false).2.2,?_⟩
 dsimp only
 generalize chunks width (rules.map Rule.sign) ([],(name:Int),[]) (ws.map pairOf)=st at key
 have line:∀ turned,nlLines st.1 st.2.1 st.2.2=rowsOf ws width name rules alts turned:=by
  intro turned
  obtain ⟨h1,h2,-⟩:=key turned
  have h3:=kne turned
  unfold rowsOf
  dsimp only
  generalize ws.foldl (rowStep width rules alts turned) ⟨[],[],name⟩=rs at h1 h2 h3
  obtain ⟨rows,row,head⟩:=rs
  obtain ⟨lines,init,ls⟩:=st
  obtain ⟨e1,e2,e3⟩:=h1
  dsimp only at e1 e2 e3 h3 ⊢
  subst e1; subst e2; subst e3
  have hall:∀ w∈row,WOk alts w:=fun w hx=>h2.ok.all w (List.mem_append_left _ hx)
  have hn:=nlLs_pairs hall
  unfold nlLines
  have hpos:0 < accLen (head:Int) (nlLs (row.map pairOf)):=by
   rw [accLen_add,hn.2.2]
   obtain ⟨w,r,q⟩:∃ w r,row=w :: r:=by
    cases row with
    | nil=>exact absurd rfl h3
    | cons w r=>exact ⟨w,r,rfl⟩
   have hw0:=(hall w (by rw [q]; simp)).tne
   have:w.text.length≠0:=fun e=>hw0 (List.eq_nil_of_length_eq_zero e)
   have h4:=accLen_nn (r.map pairOf)
   have h5:accLen 0 (row.map pairOf)=((w.gap.length + w.text.length:Nat):Int) + accLen 0 (r.map pairOf):=by
    rw [q]
    unfold accLen
    simp only [List.map_cons,List.sum_cons]
    omega
   omega
  rw [if_pos hpos,hn.1,List.map_append]; rfl
 have hne':nlLines st.1 st.2.1 st.2.2≠[]:=by
  rw [line false]; unfold rowsOf; simp
 obtain ⟨h1,h2,-⟩:=key false
 have h3:=kne false
 have hrows:rowsOf ws width name rules alts false=((ws.foldl (rowStep width rules alts false) ⟨[],[],name⟩).rows++[(ws.foldl (rowStep width rules alts false) ⟨[],[],name⟩).row]).map lineOf:=rfl
 have linesOk:∀ r:List Word,(∀ w∈r,WOk alts w)→r.length≤40→(lineOf r).length≤2200∧10∉lineOf r:=by
  intro r hr2 hl2
  constructor
  ·have:∀ r:List Word,(∀ w∈r,WOk alts w)→(lineOf r).length≤55 * r.length:=by
    intro r
    induction r with
    | nil=>intro _; simp [lineOf]
    | cons w r ih =>
     intro h
     have h6:=(h w List.mem_cons_self).gl
     have h7:=(h w List.mem_cons_self).tl2
     have h8:=ih fun x hx=>h x (List.mem_cons_of_mem _ hx)
     rw [show w :: r=[w]++r from rfl,lineOf_app,lineOf_one]
     simp only [List.length_append,List.length_singleton]
     omega
   have:=this r hr2
   omega
  ·intro hm
   unfold lineOf at hm
   obtain ⟨l,hl3,hm2⟩:=List.mem_flatten.mp hm
   obtain ⟨w,hw3,rfl⟩:=List.mem_map.mp hl3
   rcases List.mem_append.mp hm2 with q | q
   ·have:=(hr2 w hw3).gws 10 q
    exact absurd this (by decide)
   ·exact (hr2 w hw3).tnl q
 have hlf:=line false
 rw [hrows] at hlf
 generalize ws.foldl (rowStep width rules alts false) ⟨[],[],name⟩=rs at h1 h2 h3 hlf
 obtain ⟨rows,row,head⟩:=rs
 have hlen:=h2.len
 have hmany:=h2.many
 dsimp only at hlen hmany h3 hlf
 simp only [List.length_nil,Nat.add_zero] at hlen hmany
 have hall:∀ w∈row,WOk alts w:=fun w hx=>h2.ok.all w (List.mem_append_left _ hx)
 refine ⟨⟨by rw [h1.i]; exact Int.natCast_nonneg _,by rw [h1.i]; have:=h2.head; dsimp only at this ⊢; omega,by rw [h1.r]; simp; omega,fun p hp=>?_⟩,?_,?_,line,hne',?_,?_⟩
 ·rw [h1.r] at hp
  obtain ⟨w,hx,rfl⟩:=List.mem_map.mp hp
  have h6:=(hall w hx).gl
  have h7:=(hall w hx).tl2
  show w.gap.length + w.text.length≤1000
  omega
 ·rw [h1.r]
  have hn:=(nlLs_pairs hall).2.1 h3
  unfold onlyWs
  dsimp only
  rw [hn,accStr_pairs]
  obtain ⟨w,r,q⟩:∃ w r,row=w :: r:=by
   cases row with
   | nil=>exact absurd rfl h3
   | cons w r=>exact ⟨w,r,rfl⟩
  have hw1:=hall w (by rw [q]; simp)
  have hw0:w.text.length≠0:=fun e=>hw1.tne (List.eq_nil_of_length_eq_zero e)
  have e1:isSpaceL (lineOf row)=false:=line_nospace hall h3
  have e2:(accLen st.2.1 (row.map pairOf) == 0)=false:=by
   rw [beq_eq_false_iff_ne,h1.i,accLen_add]
   have h4:=accLen_nn (r.map pairOf)
   have h5:accLen 0 (row.map pairOf)=((w.gap.length + w.text.length:Nat):Int) + accLen 0 (r.map pairOf):=by
    rw [q]
    unfold accLen
    simp only [List.map_cons,List.sum_cons]
    omega
   dsimp only
   omega
  rw [e1,e2,Bool.or_false,Bool.and_false]
 ·rw [h1.l,List.length_map]; exact hmany
 ·rw [hlf]; simp; omega
 ·intro l hl2
  rw [hlf] at hl2
  obtain ⟨r,hr2,rfl⟩:=List.mem_map.mp hl2
  rcases List.mem_append.mp hr2 with q | q
  ·exact linesOk r (h2.rows r q).2 (h2.rows r q).1
  ·rw [List.mem_singleton] at q; subst q
   exact linesOk _ hall hlen
end SP1d
section SC10a
open PySem.W PySem.Builtin PySem.Builtin.ObjectAttr
variable {g:Gl} {A:Around} {F:Fm} {σ:AS} {P:PV→AS→Prop} {loc:List (Str × PV)}
def numbersOf (script:List Int):List Int:=(if script.isEmpty then [8,0,20,3] else script).take 4++[2,0,98]
def altsX (x:Int):List Nat:=altsOf (x.fdiv 7)
def kindsX (x:Int):List Nat:=[(altsX x).getD 0 0,61,32,(altsX x).getD 1 0,9]
def signsX (x:Int):List Nat:=((kindsX x++kindsX x).drop (x.fmod 5).toNat).take (1 + ((x.fdiv 5).fmod 3).toNat)
def widthX (x:Int):Int:=5 + (x.fdiv 3).fmod 17
def nameX (x:Int):Int:=(x.fdiv 2).fmod 3 * 3
def signs23:List Nat:=sgn20++[61,32,9]
def ruleOf (c:Nat):Rule:=if c∈[32,9] then ⟨c,⟨false,[c]⟩,⟨true,[32,9]⟩⟩ else ⟨c,⟨false,[32,9]⟩,⟨false,[c]⟩⟩
def sameSet (a b:CSet):Bool:=(a.barred == b.barred) && decide (a.members=b.members)
theorem sameSet_eq {a b:CSet} (h:sameSet a b=true):a=b:=by
 unfold sameSet at h
 rw [Bool.and_eq_true,beq_iff_eq,decide_eq_true_eq] at h
 obtain ⟨x,y⟩:=a; obtain ⟨u,v⟩:=b
 obtain ⟨h1,h2⟩:=h
 dsimp only at h1 h2
 subst h1; subst h2; rfl
def okSign (c:Nat):Bool:=match trGo (patternOf c) ((patternOf c).length + 1) 0 [] with
 | some [none,some a,some b,none]=>decide (a.length≤20) && decide (b.length≤20) && startsL (joined a b) headL && endsL (joined a b) tailL && decide ((patternOf c).length≤20) &&
  (match setsRun (sl (joined a b) (some 10) (some (-6))) 50 0 [] with
   | some [u,v]=>sameSet u (ruleOf c).s0 && sameSet v (ruleOf c).s1
   | _=>false)
 | _=>false
theorem ok23:∀ c∈signs23,okSign c=true:=by decide +kernel
structure SignOk (c:Nat) (a b:List Nat):Prop where
 tr:trGo (patternOf c) ((patternOf c).length + 1) 0 []=some [none,some a,some b,none]
 la:a.length≤20
 lb:b.length≤20
 st:startsL (joined a b) headL=true
 en:endsL (joined a b) tailL=true
 lp:(patternOf c).length≤20
 run:setsRun (sl (joined a b) (some 10) (some (-6))) 50 0 []=some [(ruleOf c).s0,(ruleOf c).s1]
theorem signOk {c:Nat} (h:c∈signs23):∃ a b,SignOk c a b:=by
 have:=ok23 c h
 unfold okSign at this
 split at this
 ·rename_i a b htr
  simp only [Bool.and_eq_true,decide_eq_true_eq] at this
  obtain ⟨⟨⟨⟨⟨h1,h2⟩,h3⟩,h4⟩,h5⟩,h6⟩:=this
  split at h6
  ·rename_i u v hrun
   rw [Bool.and_eq_true] at h6
   exact ⟨a,b,htr,h1,h2,h3,h4,h5,by rw [hrun,sameSet_eq h6.1,sameSet_eq h6.2]⟩
  ·cases h6
 ·cases this
theorem sgn_mem {k:Nat} (h:k < 20):sgn20.getD k 0∈signs23:=by
 have:∀ j:Fin 20,sgn20.getD j.1 0∈signs23:=by decide
 exact this ⟨k,h⟩
theorem signsX_sub (x:Int):∀ c∈signsX x,c∈signs23:=by
 intro c hc
 unfold signsX at hc
 have hc2:=List.mem_of_mem_drop (List.mem_of_mem_take hc)
 have hk:c∈kindsX x:=by
  rcases List.mem_append.mp hc2 with q | q <;> exact q
 have e0:(altsX x).getD 0 0∈signs23:=by
  have:=fmod_range (x.fdiv 7) 20 (by decide)
  show sgn20.getD ((x.fdiv 7).fmod 20).toNat 0∈signs23
  exact sgn_mem (by omega)
 have e1:(altsX x).getD 1 0∈signs23:=by
  have:=fmod_range ((x.fdiv 7).fmod 20 + 1 + ((x.fdiv 7).fdiv 20).fmod 19) 20 (by decide)
  show sgn20.getD (((x.fdiv 7).fmod 20 + 1 + ((x.fdiv 7).fdiv 20).fmod 19).fmod 20).toNat 0∈signs23
  exact sgn_mem (by omega)
 unfold kindsX at hk
 simp only [List.mem_cons,List.not_mem_nil,or_false] at hk
 rcases hk with q | q | q | q | q
 ·rw [q]; exact e0
 ·rw [q]; decide
 ·rw [q]; decide
 ·rw [q]; exact e1
 ·rw [q]; decide
theorem altsX_lt (x:Int):∀ n∈altsX x,n < 256:=by
 have hs:∀ k:Nat,k < 20→sgn20.getD k 0 < 256:=fun k hk=>by
  have:∀ j:Fin 20,sgn20.getD j.1 0 < 256:=by decide
  exact this ⟨k,hk⟩
 have h0:=fmod_range (x.fdiv 7) 20 (by decide)
 have h1:=fmod_range ((x.fdiv 7).fmod 20 + 1 + ((x.fdiv 7).fdiv 20).fmod 19) 20 (by decide)
 intro n hn
 unfold altsX altsOf at hn
 simp only [List.mem_cons,List.not_mem_nil,or_false] at hn
 rcases hn with q | q
 ·rw [q]; exact hs _ (by omega)
 ·rw [q]; exact hs _ (by omega)
theorem b2a_len (ns:List Nat):(b2a ns).length≤2 * ns.length + 3:=by
 have hs:∀ (l:List Nat) (st:BSt),(l.foldl b2aStep st).1.length≤st.1.length + 2 * l.length:=by
  intro l
  induction l with
  | nil=>intro st; simp
  | cons b r ih =>
   intro st
   have h1:=ih (b2aStep st b)
   have h2:(b2aStep st b).1.length≤st.1.length + 2:=emit_len 2 (st.2.1 + 8) st.1
   rw [List.foldl_cons,List.length_cons]
   omega
 have:=hs ns ([],0,0)
 unfold b2a b2aFin
 rw [List.length_append]
 have h3:(if (ns.foldl b2aStep ([],0,0)).2.1=2 then [b64c ((ns.foldl b2aStep ([],0,0)).2.2 % 4 * 16),61,61] else if (ns.foldl b2aStep ([],0,0)).2.1=4 then [b64c ((ns.foldl b2aStep ([],0,0)).2.2 % 16 * 4),61] else []).length≤3:=by
  split
  ·simp
  ·split <;> simp
 simp only [List.length_nil] at this
 omega
def wordTxt (alts:List Nat) (w:Word):List Nat:=w.gap++(b2a w.octs).map (encN (alts.getD 0 0) (alts.getD 1 0))
def toldOf (alts:List Nat) (ws:List Word):List Nat:=(ws.map (wordTxt alts)).flatten
theorem octs_of {l:List Nat} (h:∀ n∈l,n < 256):octs (l.map fun (n:Nat)=>n.toUInt8).toArray=l.map fun (k:Nat)=>.int (k:Int):=by
 unfold octs
 rw [List.map_map]
 refine List.map_congr_left fun n hn=>?_
 show PV.int _=PV.int _
 have:=h n hn
 rw [show n.toUInt8.toNat=n from by simp [Nat.toUInt8]; omega]
theorem wordsGo_len {alts:List Nat} {bare:Bool}:∀ (ns:List Int) (first:Bool),(wordsGo alts bare first ns).length=ns.length
 | [],_=>rfl
 | n :: ns,first=>by
  show (_ :: wordsGo alts bare false ns).length=_
  rw [List.length_cons,List.length_cons,wordsGo_len ns false]
theorem told_len {alts:List Nat}:∀ ws:List Word,(∀ w∈ws,w.gap.length≤5∧w.octs.length≤8)→(toldOf alts ws).length≤24 * ws.length
 | [],_=>by simp [toldOf]
 | w :: r,h=>by
  have h1:=told_len (alts:=alts) r fun w hw=>h w (List.mem_cons_of_mem _ hw)
  have h2:=h w List.mem_cons_self
  have h3:=b2a_len w.octs
  unfold toldOf at h1 ⊢
  rw [List.map_cons,List.flatten_cons,List.length_append,List.length_cons]
  unfold wordTxt at h1 ⊢
  rw [List.length_append,List.length_map]
  omega
theorem gapOf_len (n:Int):(gapOf n).length≤5:=by
 have h:=fmod_range (n.fdiv 24) 4 (by decide)
 unfold gapOf
 have:∀ j:Fin 4,(([[32],[9],[32,32],[9,32]]:List (List Nat)).getD j.1 []).length≤5:=by decide
 exact this ⟨((n.fdiv 24).fmod 4).toNat,by omega⟩
theorem wordsGo_ok {alts:List Nat} {bare:Bool}:∀ (ns:List Int) (first:Bool),∀ w∈wordsGo alts bare first ns,w.gap.length≤5∧w.octs.length≤8∧∀ n∈w.octs,n < 256
 | [],_,w,hw=>by cases hw
 | n :: ns,first,w,hw=>by
  rcases List.mem_cons.mp hw with q | q
  ·subst q
   refine ⟨?_,Nat.le_trans (octsOf_len n) (by decide),octsOf_lt n⟩
   show (if (bare && first)=true then [] else gapOf n).length≤5
   split
   ·decide
   ·exact gapOf_len n
  ·exact wordsGo_ok ns false w q
theorem ruleOf_sign (c:Nat):(ruleOf c).sign=c:=by unfold ruleOf; split <;> rfl
theorem sl_take4 (l:List Int):sl (l.map PV.int) none (some 4)=(l.take 4).map PV.int:=by
 unfold sl
 show List.take (clipAt (l.map PV.int).length 4 - 0) (List.drop 0 (l.map PV.int))=_
 have:=clipAt_cast (l.map PV.int).length 4
 rw [if_neg (by decide),List.length_map] at this
 rw [List.drop_zero,List.length_map,List.map_take,Nat.sub_zero]
 by_cases h:4≤l.length
 ·rw [show clipAt l.length 4=4 by omega]
 ·rw [List.take_of_length_le (by rw [List.length_map]; omega),List.take_of_length_le (by rw [List.length_map]; omega)]
structure LawA where
 (fAlts fPat fSets fTrl fT fJ fe d pat2 fWords fWord fWriting f64 fB2a fBuf fTru fFolded fRows fPlace fOct fByPat fLast cVf cAcc pat1:Addr)
 (K:Frag) (vf:VfA) (acc:AccA)
structure LawOk (g:Gl) (q:LawA):Prop where
 alts:Fn g 25 "_law_alts" q.fAlts
 pat:Fn g 29 "_law_pattern" q.fPat
 sets:Fn g 30 "_law_sets" q.fSets
 trl:Fn g 17 "translate" q.fTrl
 tr:TrOk g q.fT q.fe q.d q.pat2
 join:Fn g 23 "_join_translated_parts" q.fJ
 obj:g.Blt "object" (.type "object")
 words:Fn g 28 "_law_words" q.fWords
 word:Fn g 26 "_law_word" q.fWord
 writing:Fn g 27 "_law_writing" q.fWriting
 range:g.Blt "range" (.type "range")
 rev:g.Blt "reversed" (.type "reversed")
 bytes:g.Blt "bytes" (.type "bytes")
 ord:g.Blt "ord" (.builtin "ord")
 chr:g.Blt "chr" (.builtin "chr")
 b64:B64Ok g q.f64
 b2a:B2aOk g q.fB2a q.fBuf q.fTru
 sum:g.Blt "sum" (.builtin "sum")
 len:g.Blt "len" (.builtin "len")
 folded:Fn g 36 "_law_folded" q.fFolded
 vfok:VfOk g q.K q.cVf q.cAcc q.vf q.acc
 re1:g.Glob "twin_re_1_header" (.ref q.pat1)
 pat1:Rx.PatOk g q.pat1
 rows:Fn g 35 "_law_rows" q.fRows
 place:Fn g 34 "_law_place" q.fPlace
 oct:Fn g 32 "_law_by_octets" q.fOct
 byPat:Fn g 33 "_law_by_pattern" q.fByPat
 last:Fn g 31 "_law_last" q.fLast
end SC10a
section SP1e
theorem fits_false {m:List Nat} {c:Nat}:(⟨false,m⟩:CSet).fits c=decide (c∈m):=by unfold CSet.fits; cases decide (c∈m) <;> rfl
theorem fits_true {m:List Nat} {c:Nat}:(⟨true,m⟩:CSet).fits c = !decide (c∈m):=by unfold CSet.fits; cases decide (c∈m) <;> rfl
theorem ws_dec (c:Nat):decide (c∈[32,9])=Rx.isWs c:=by
 cases h:Rx.isWs c with
 | true=>rw [isWs_iff] at h; exact decide_eq_true (by simpa using h)
 | false =>
  refine decide_eq_false fun q=>?_
  have:=isWs_iff.mpr (show c=32∨c=9 by simpa using q)
  rw [h] at this; cases this
theorem signs_all:∀ c∈signs23,c=32∨c=9∨(Rx.isWs c=false∧c∉tab64):=by decide +kernel
theorem sgn20_all:∀ c∈sgn20,Rx.isWs c=false∧c∉tab64∧c≠10∧Unicode.isSpace c=false:=by decide +kernel
theorem tab_all:∀ c∈tab64++[61],Rx.isWs c=false∧c≠10∧Unicode.isSpace c=false:=by decide +kernel
theorem rule_fits {alts:List Nat} {c:Nat} (h:c∈signs23):RuleFits alts (ruleOf c):=by
 have hs:=signs_all c h
 by_cases hc:c∈[32,9]
 ·have hw:Rx.isWs c=true:=by rw [← ws_dec]; exact decide_eq_true hc
  have e:ruleOf c=⟨c,⟨false,[c]⟩,⟨true,[32,9]⟩⟩:=by unfold ruleOf; rw [if_pos hc]
  rw [e]
  refine ⟨by rcases hs with q | q | q; exact .inl q; exact .inr (.inl q); exact .inr (.inr q),⟨fun x hx=>?_,fun x hx=>?_⟩,fun u v hu hv hg=>?_⟩
  ·rw [fits_false]
   refine decide_eq_false fun q=>?_
   rw [List.mem_singleton] at q; subst q
   rw [hw] at hx; cases hx
  ·rw [fits_true,ws_dec,hx]; rfl
  ·dsimp only
   rw [fits_false,fits_true,ws_dec,hv.lst_ws,Bool.not_false,Bool.and_true]
   have:lastOf v.octs alts≠[c]:=by
    rcases hv.last with q | ⟨q,_⟩
    ·rw [q]
     intro e'
     have:v.lst=c:=by simpa using e'
     have h2:=hv.lst_ws
     rw [this,hw] at h2; cases h2
    ·rw [q]; simp
   rw [decide_eq_false this,Bool.or_false]
   by_cases q:u.gap.getD 0 0=c
   ·rw [decide_eq_true q,decide_eq_true (by rw [q]; simp)]
   ·rw [decide_eq_false q,decide_eq_false (by rw [List.mem_singleton]; exact q)]
 ·have hw:Rx.isWs c=false:=by rw [← ws_dec]; exact decide_eq_false hc
  have e:ruleOf c=⟨c,⟨false,[32,9]⟩,⟨false,[c]⟩⟩:=by unfold ruleOf; rw [if_neg hc]
  have hs':Rx.isWs c=false∧c∉tab64:=by
   rcases hs with q | q | q
   ·exact absurd (by rw [q]; simp) hc
   ·exact absurd (by rw [q]; simp) hc
   ·exact q
  rw [e]
  refine ⟨.inr (.inr hs'),⟨fun x hx=>by rw [fits_false,ws_dec]; exact hx,fun x hx=>?_⟩,fun u v hu hv hg=>?_⟩
  ·rw [fits_false]
   refine decide_eq_false fun q=>?_
   rw [List.mem_singleton] at q; subst q
   rw [hw] at hx; cases hx
  ·dsimp only
   rw [fits_false,fits_false,ws_dec,hu.hd_ws hg,Bool.true_and]
   have h1:u.gap.getD 0 0≠c:=fun q=>by
    have:=hu.hd_ws hg
    rw [q,hw] at this; cases this
   rw [decide_eq_false h1,Bool.false_or]
   rcases hv.last with q | ⟨q,q'⟩
   ·rw [q]
    by_cases k:v.lst=c
    ·rw [decide_eq_true (by rw [k]; simp),decide_eq_true (by rw [k])]
    ·rw [decide_eq_false (by rw [List.mem_singleton]; exact k),decide_eq_false (fun e=>k (by simpa using e))]
   ·rw [q]
    have k:v.lst≠c:=fun k=>hs'.2 (k ▸ q')
    rw [decide_eq_false (by rw [List.mem_singleton]; exact k),decide_eq_false (by simp)]
theorem sgn20_mem {k:Nat} (h:k < 20):sgn20.getD k 0∈sgn20:=getD_mem h
theorem alts_sgn (x:Int):∀ c∈altsX x,c∈sgn20:=by
 have h0:=fmod_range (x.fdiv 7) 20 (by decide)
 have h1:=fmod_range ((x.fdiv 7).fmod 20 + 1 + ((x.fdiv 7).fdiv 20).fmod 19) 20 (by decide)
 intro n hn
 unfold altsX altsOf at hn
 simp only [List.mem_cons,List.not_mem_nil,or_false] at hn
 rcases hn with q | q
 ·rw [q]; exact sgn20_mem (by omega)
 ·rw [q]; exact sgn20_mem (by omega)
theorem shiftOf_val (n:Nat):shiftOf n=(6 - 8 * n % 6) % 6:=by
 unfold shiftOf
 have:(-8 * (n:Int)).fmod 6=(((6 - 8 * n % 6) % 6:Nat):Int):=by rw [Int.fmod_eq_emod_of_nonneg _ (by decide)]; omega
 rw [this]; rfl
theorem padOf_val (n:Nat):padOf n=(3 - n % 3) % 3:=by
 unfold padOf
 have:(-(n:Int)).fmod 3=(((3 - n % 3) % 3:Nat):Int):=by rw [Int.fmod_eq_emod_of_nonneg _ (by decide)]; omega
 rw [this]; rfl
theorem valueOf_mod (l:List Nat) (h:l≠[]):valueOf l % 64=l.getD (l.length - 1) 0 % 64:=by
 rcases snoc_cases l with q | ⟨r,e,q⟩
 ·exact absurd q h
 ·subst q
  rw [valueOf_snoc,List.getD_eq_getElem?_getD]
  simp
  omega
theorem writing_len (octs alts:List Nat):(writing octs alts).length=(octs.length + 2) / 3 * 4:=by
 unfold writing figuresOf
 rw [List.length_append,List.length_map,List.length_reverse,List.length_map,List.length_range,List.length_replicate,padOf_val]
 omega
theorem writing_mem {octs:List Nat} {a b:Nat}:∀ c∈writing octs [a,b],c∈tab64++[a,b]++[61]:=by
 intro c hc
 unfold writing at hc
 rcases List.mem_append.mp hc with q | q
 ·obtain ⟨i,hi,rfl⟩:=List.mem_map.mp q
  rw [List.mem_reverse] at hi
  unfold figuresOf at hi
  obtain ⟨k,_,rfl⟩:=List.mem_map.mp hi
  refine List.mem_append_left _ (getD_mem ?_)
  have:(tab64++[a,b]).length=64:=rfl
  rw [this]
  exact Nat.mod_lt _ (by decide)
 ·have:=List.eq_of_mem_replicate q
  subst this
  simp
theorem writing_last {octs:List Nat} {a b:Nat} (h0:octs≠[]):let t:=writing octs [a,b]; lastOf octs [a,b]=[t.getD (t.length - 1) 0]∨(lastOf octs [a,b]=[]∧t.getD (t.length - 1) 0∈tab64):=by
 have hn:octs.length≠0:=fun q=>h0 (List.eq_nil_of_length_eq_zero q)
 intro t
 unfold lastOf
 by_cases h3:octs.length % 3≠0
 ·rw [if_pos h3]
  left
  have hp:padOf octs.length≠0:=by rw [padOf_val]; omega
  have:t.getD (t.length - 1) 0=61:=by
   show (writing octs [a,b]).getD _ 0=61
   unfold writing
   obtain ⟨k,hk⟩:=Nat.exists_eq_succ_of_ne_zero hp
   rw [hk,List.replicate_succ',← List.append_assoc,List.getD_eq_getElem?_getD]
   have e:t.length - 1=(List.map (fun i=>(tab64++[a,b]).getD i 0) (figuresOf octs).reverse++List.replicate k 61).length:=by
    show (writing octs [a,b]).length - 1=_
    unfold writing
    rw [hk,List.length_append,List.length_append,List.length_replicate,List.length_replicate]
    omega
   rw [e]
   simp
  rw [this]
 ·rw [if_neg h3]
  have hp:padOf octs.length=0:=by rw [padOf_val]; omega
  have hsh:shiftOf octs.length=0:=by rw [shiftOf_val]; omega
  obtain ⟨m,hm⟩:=Nat.exists_eq_succ_of_ne_zero (show (8 * octs.length + 5) / 6≠0 by omega)
  have hfig:figuresOf octs=(octs.getD (octs.length - 1) 0 % 64) :: (List.range m).map (fun k=>valueOf octs * 2 ^ shiftOf octs.length / 64 ^ (k + 1) % 64):=by
   unfold figuresOf
   rw [hm,List.range_succ_eq_map,List.map_cons,List.map_map]
   congr 1
   rw [hsh]
   simp
   exact valueOf_mod octs h0
  have ht:t.getD (t.length - 1) 0=(tab64++[a,b]).getD (octs.getD (octs.length - 1) 0 % 64) 0:=by
   have e:t=((List.range m).map (fun k=>valueOf octs * 2 ^ shiftOf octs.length / 64 ^ (k + 1) % 64)).reverse.map (fun i=>(tab64++[a,b]).getD i 0)++[(tab64++[a,b]).getD (octs.getD (octs.length - 1) 0 % 64) 0]:=by
    show writing octs [a,b]=_
    unfold writing
    rw [hp,hfig]
    simp
   rw [e,List.getD_eq_getElem?_getD]
   simp
  rw [ht]
  have hj:octs.getD (octs.length - 1) 0 % 64 < 64:=Nat.mod_lt _ (by decide)
  generalize octs.getD (octs.length - 1) 0 % 64=j at hj
  by_cases h62:j=62
  ·left; subst h62; rfl
  ·by_cases h63:j=63
   ·left; subst h63; rfl
   ·right
    have a1:(j == 62)=false:=by simpa using h62
    have a2:(j == 63)=false:=by simpa using h63
    refine ⟨by simp only [List.lookup_cons,a1,a2,List.lookup_nil]; rfl,?_⟩
    have hl:j < tab64.length:=by rw [tab64_len]; omega
    rw [List.getD_eq_getElem?_getD,List.getElem?_append_left hl,← List.getD_eq_getElem?_getD]
    exact getD_mem hl
theorem gapOf_ws (n:Int):gapOf n≠[]∧∀ c∈gapOf n,Rx.isWs c=true:=by
 have h:=fmod_range (n.fdiv 24) 4 (by decide)
 unfold gapOf
 have:∀ j:Fin 4,(([[32],[9],[32,32],[9,32]]:List (List Nat)).getD j.1 [])≠[]∧∀ c∈(([[32],[9],[32,32],[9,32]]:List (List Nat)).getD j.1 []),Rx.isWs c=true:=by decide
 exact this ⟨((n.fdiv 24).fmod 4).toNat,by omega⟩
theorem octsOf_ne (n:Int):octsOf n≠[]:=fun q=>by
 have:=octs4_len ((n.fmod 6).toNat + 1) (n.fdiv 6)
 unfold octsOf at q
 rw [q] at this; cases this
theorem word_ok {alts:List Nat} {a b:Nat} (he:alts=[a,b]) (ha:∀ c∈alts,c∈sgn20) {g:List Nat} (hg:∀ c∈g,Rx.isWs c=true) (hgl:g.length≤5) (n:Int):WOk alts ⟨g,octsOf n,writing (octsOf n) alts⟩:=by
 have hlen:=writing_len (octsOf n) alts
 have hol:=octsOf_len n
 have hone:=octsOf_ne n
 have hon:(octsOf n).length≠0:=fun q=>hone (List.eq_nil_of_length_eq_zero q)
 have hmem:∀ c∈writing (octsOf n) alts,Rx.isWs c=false∧c≠10∧Unicode.isSpace c=false:=by
  intro c hc
  rw [he] at hc
  have:=writing_mem c hc
  rcases List.mem_append.mp this with q | q
  ·rcases List.mem_append.mp q with r | r
   ·exact tab_all c (List.mem_append_left _ r)
   ·have:=sgn20_all c (ha c (by rw [he]; exact r))
    exact ⟨this.1,this.2.2.1,this.2.2.2⟩
  ·exact tab_all c (List.mem_append_right _ q)
 have hne:writing (octsOf n) alts≠[]:=fun q=>by rw [q] at hlen; simp at hlen; omega
 refine ⟨hg,hgl,fun c hc=>(hmem c hc).1,fun h=>(hmem 10 h).2.1 rfl,hlen,hne,?_,?_,?_⟩
 ·dsimp only; rw [hlen]; omega
 ·rw [he]; exact writing_last hone
 ·refine (hmem _ (getD_mem ?_)).2.2
  have:(writing (octsOf n) alts).length≠0:=fun q=>hne (List.eq_nil_of_length_eq_zero q)
  dsimp only
  omega
theorem words_all {alts:List Nat} {a b:Nat} (he:alts=[a,b]) (ha:∀ c∈alts,c∈sgn20) {bare:Bool}:∀ (ns:List Int) (first:Bool),∀ w∈wordsGo alts bare first ns,WOk alts w∧w.octs≠[]∧w.octs.length≤8∧∃ n:Int,w.octs=octsOf n∧w.text=writing (octsOf n) alts
 | [],_,w,hw=>by cases hw
 | n :: ns,first,w,hw=>by
  rcases List.mem_cons.mp hw with q | q
  ·subst q
   refine ⟨word_ok he ha ?_ ?_ n,octsOf_ne n,Nat.le_trans (octsOf_len n) (by decide),n,rfl,rfl⟩
   ·split
    ·intro c hc; cases hc
    ·exact (gapOf_ws n).2
   ·split
    ·decide
    ·exact gapOf_len n
  ·exact words_all he ha ns false w q
theorem words_gap {alts:List Nat} {bare:Bool}:∀ (ns:List Int),∀ w∈wordsGo alts bare false ns,w.gap≠[]
 | [],w,hw=>by cases hw
 | n :: ns,w,hw=>by
  rcases List.mem_cons.mp hw with q | q
  ·subst q
   show (if (bare && false)=true then [] else gapOf n)≠[]
   rw [Bool.and_false,if_neg (by decide)]
   exact (gapOf_ws n).1
  ·exact words_gap ns w q
theorem words_ok {alts:List Nat} {a b:Nat} (he:alts=[a,b]) (ha:∀ c∈alts,c∈sgn20) {bare:Bool} (ns:List Int):ROk alts (wordsGo alts bare true ns):=by
 refine ⟨fun w hw=>(words_all he ha ns true w hw).1,fun i hi=>?_⟩
 cases ns with
 | nil=>exact absurd hi (by show ¬ (i + 1 < 0); omega)
 | cons n ns =>
  have hi':i < (wordsGo alts bare false ns).length:=by
   have:(wordsGo alts bare true (n :: ns)).length=(wordsGo alts bare false ns).length + 1:=rfl
   omega
  exact words_gap ns _ (show ((wordsGo alts bare false ns).getD i w0)∈_ from row_in hi')
theorem words_rowOk {alts:List Nat} {a b:Nat} (he:alts=[a,b]) (ha:∀ c∈alts,c∈sgn20) {bare:Bool} (ns:List Int) (hl:ns.length≤20):RowOk (wordsGo alts bare true ns):=by
 have h:=words_ok he ha (bare:=bare) ns
 refine ⟨by rw [wordsGo_len]; omega,fun i w e=>?_,fun w hw=>(h.all w hw).gl,fun w hw=>?_,fun w hw=>⟨(h.all w hw).tne,(h.all w hw).tl2⟩⟩
 ·have hi:i + 1 < (wordsGo alts bare true ns).length:=by
   rcases Nat.lt_or_ge (i + 1) (wordsGo alts bare true ns).length with q | q
   ·exact q
   ·rw [List.getElem?_eq_none q] at e; cases e
  have:=h.gap i hi
  rw [List.getD_eq_getElem?_getD,e] at this
  exact this
 ·have:=words_all he ha ns true w hw
  exact ⟨this.2.1,this.2.2.1⟩
theorem told_flat {alts:List Nat} {a b:Nat} (he:alts=[a,b]) (ha:∀ c∈alts,c∈sgn20) {bare:Bool} (ns:List Int) (first:Bool):toldOf alts (wordsGo alts bare first ns)=Rx.flatP ((wordsGo alts bare first ns).map pairOf):=by
 have key:∀ ws:List Word,(∀ w∈ws,∃ n:Int,w.octs=octsOf n∧w.text=writing (octsOf n) alts)→toldOf alts ws=Rx.flatP (ws.map pairOf):=by
  intro ws
  induction ws with
  | nil=>intro _; rfl
  | cons w r ih =>
   intro h
   have ih:=ih fun x hx=>h x (List.mem_cons_of_mem _ hx)
   obtain ⟨n,e1,e2⟩:=h w List.mem_cons_self
   show wordTxt alts w++toldOf alts r=w.gap++(w.text++Rx.flatP (r.map pairOf))
   rw [ih]
   unfold wordTxt
   rw [e1,e2,he]
   show w.gap++List.map (encN a b) _++_=_
   rw [b2a_writing (octsOf_lt n),List.append_assoc]
 exact key _ fun w hw=>(words_all he ha ns first w hw).2.2.2
theorem told_parts {alts:List Nat} {a b:Nat} (he:alts=[a,b]) (ha:∀ c∈alts,c∈sgn20) {bare:Bool} (ns:List Int) (hne:ns≠[]):pairsL (partsOf (toldOf alts (wordsGo alts bare true ns)))=(wordsGo alts bare true ns).map pairOf:=by
 rw [told_flat he ha]
 cases ns with
 | nil=>exact absurd rfl hne
 | cons n ns =>
  have hh:=(words_all he ha (bare:=bare) (n :: ns) true _ List.mem_cons_self).1
  have hr:=fun w hw=>(words_all he ha (bare:=bare) ns false w hw).1
  refine parts_words (p:=pairOf _) (ps:=(wordsGo alts bare false ns).map pairOf) ⟨fun p hp=>?_,fun p hp=>?_,fun p hp=>?_,fun p hp=>?_⟩ hh.gws hh.tws hh.tne
  all_goals obtain ⟨w,hw,rfl⟩:=List.mem_map.mp hp
  ·exact (hr w hw).gws
  ·exact (hr w hw).tws
  ·exact words_gap ns w hw
  ·exact (hr w hw).tne
theorem rules_signs (x:Int):((signsX x).map ruleOf).map Rule.sign=signsX x:=by
 rw [List.map_map]
 conv=>rhs; rw [← List.map_id (signsX x)]
 exact List.map_congr_left fun c _=>ruleOf_sign c
theorem rules_fit (x:Int):∀ r∈(signsX x).map ruleOf,RuleFits (altsX x) r:=by
 intro r hr
 obtain ⟨c,hc,rfl⟩:=List.mem_map.mp hr
 exact rule_fits (signsX_sub x c hc)
theorem sum_le {B:Nat}:∀ L:List (List Nat),(∀ l∈L,l.length≤B)→(L.map (·.length)).sum≤B * L.length
 | [],_=>by simp
 | l :: L,h=>by
  have:=sum_le L fun x hx=>h x (List.mem_cons_of_mem _ hx)
  have h1:=h l List.mem_cons_self
  simp only [List.map_cons,List.sum_cons,List.length_cons]
  rw [Nat.mul_succ]; omega
theorem joinL_len_le (sep:List Nat):∀ L:List (List Nat),(joinL sep L).length≤(L.map (·.length)).sum + L.length * sep.length
 | []=>Nat.zero_le _
 | [x]=>by
  show x.length≤_
  simp only [List.map_cons,List.map_nil,List.sum_cons,List.sum_nil]; omega
 | x :: y :: r=>by
  have:=joinL_len_le sep (y :: r)
  show (x++sep++joinL sep (y :: r)).length≤_
  rw [List.length_append,List.length_append,List.map_cons,List.sum_cons,List.length_cons,Nat.succ_mul]
  omega
theorem plain_law {x:Int} {bare:Bool} {ns:List Int} (hne:ns≠[]) (hl:ns.length≤20) {width:Int} {name:Nat} (hname:name≤1000) :
  let ws:=wordsGo (altsX x) bare true ns
  let ps:=pairsL (partsOf (toldOf (altsX x) ws))
  let st:=chunks width (signsX x) ([],(name:Int),[]) ps
  ChOk width (signsX x) ([],(name:Int),[]) ps∧RowOk ws ∧
  (AccSz st.2.1 st.2.2∧(0 < accLen st.2.1 (nlLs st.2.2)→onlyWs st.2.1 (nlLs st.2.2)=false)∧st.1.length≤1000∧JoinFit [10] (nlLines st.1 st.2.1 st.2.2)∧(joinL [10] (nlLines st.1 st.2.1 st.2.2)).length≤1000000) ∧
  ∀ turned,(Txt.split (ofL (joinL [10] (nlLines st.1 st.2.1 st.2.2))) (ofL [10])).map (fun s=>s.cps.toList)=rowsOf ws width name ((signsX x).map ruleOf) (altsX x) turned:=by
 intro ws ps st
 have he:altsX x=[(altsX x).getD 0 0,(altsX x).getD 1 0]:=rfl
 have hps:ps=ws.map pairOf:=told_parts he (alts_sgn x) ns hne
 have hst:st=chunks width (((signsX x).map ruleOf).map Rule.sign) ([],(name:Int),[]) (ws.map pairOf):=by rw [rules_signs,← hps]
 have hwne:ws≠[]:=fun q=>by
  have:=wordsGo_len (alts:=altsX x) (bare:=bare) ns true
  have e:ws.length=ns.length:=this
  rw [q] at e
  exact hne (List.eq_nil_of_length_eq_zero e.symm)
 have hwl:ws.length≤40:=by
  have:ws.length=ns.length:=wordsGo_len ns true
  omega
 have F:=fold_law (width:=width) (rules_fit x) (words_ok he (alts_sgn x) (bare:=bare) ns) hwl hwne hname
 obtain ⟨f0,f1,f2,f3,f4,f5,f6,f7⟩:=F
 rw [rules_signs] at f0
 rw [show chunks width (((signsX x).map ruleOf).map Rule.sign) ([],(name:Int),[]) ((wordsGo (altsX x) bare true ns).map pairOf)=st from hst.symm] at f1 f2 f3 f4 f5 f6 f7
 have hsum:=sum_le (B:=2200) _ fun l hl=>(f7 l hl).1
 refine ⟨by rw [hps]; exact f0,words_rowOk he (alts_sgn x) ns hl,⟨f1,fun _=>f2,by omega,?_,?_⟩,fun turned=>?_⟩
 ·unfold JoinFit
  simp only [List.length_singleton]
  omega
 ·have:=joinL_len_le [10] (nlLines st.1 st.2.1 st.2.2)
  simp only [List.length_singleton] at this
  omega
 ·rw [← f4 turned]
  exact split_lines f5 fun l hl=>(f7 l hl).2
end SP1e
section SC10
open PySem.W PySem.Builtin PySem.Builtin.ObjectAttr
variable {g:Gl} {A:Around} {F:Fm} {σ:AS} {P:PV→AS→Prop} {loc:List (Str × PV)}
set_option maxHeartbeats 4000000 in
theorem law_body {f c L:Addr} {pm:Value} {q:LawA} (hr:Rm A 14) (h:LawOk g q) {script:List Int} (hlen:script.length≤100000) (hP:P (.raw (.bool true)) σ) :
  EXs g (A.deeper (callEnv (mkF 37 "law" c pm) L f)) (fnFm (mkF 37 "law" c pm) L f) (fB 37) ⟨(["script"]:List Str).zip [.lst (script.map .int)],σ.zone⟩ (Ends σ.zone fun p=>P p σ):=by
 obtain ⟨c1,pm1,hfa1⟩:=h.alts.at_
 obtain ⟨c2,pm2,hfa2⟩:=h.pat.at_
 obtain ⟨c3,pm3,hfa3⟩:=h.sets.at_
 obtain ⟨c4,pm4,hfa4⟩:=h.trl.at_
 obtain ⟨c5,pm5,hfa5⟩:=h.words.at_
 obtain ⟨c6,pm6,T6,hfa6,-⟩:=h.b64.at_
 obtain ⟨c7,pm7,hfa7⟩:=h.folded.at_
 obtain ⟨c8,pm8,hfa8⟩:=h.rows.at_
 ·have hk:FnEnv (fnFm (mkF 37 "law" c pm) L f):=fnEnv_mkF rfl
  have hr':=hr.deeper (env:=callEnv (mkF 37 "law" c pm) L f)
  have hr0:Rm (A.deeper (callEnv (mkF 37 "law" c pm) L f)) 0:=Rm.le hr' (by decide)
  refine EXs_cons ?_
  refine EX_Assign_Name hk ?_
  refine EV_BinOp ?_
  refine EV_SubSlice ?_
  refine J.mono (P:=fun p σ'=>p=.lst ((if script.isEmpty then [8,0,20,3] else script).map .int)∧σ'=⟨[("script",.lst (script.map .int))],σ.zone⟩) ?_ ?_
  ·refine EV_Or ?_
   refine EV_local hk (by rfl) ?_
   refine TT_lst (by rw [List.length_map]; omega) ?_
   cases script with
   | nil =>
    show EV _ _ _ _ _ _
    refine EV_List ?_
    repeat walk_at "st"
    first | exact ⟨by simp,rfl,rfl⟩ | exact ⟨rfl,rfl⟩ | exact rfl
   | cons a r=>exact ⟨rfl,rfl⟩
  rintro _ _ ⟨rfl,rfl⟩
  refine PT_none ?_
  refine PT_some ?_
  refine EV_int ?_
  refine ⟨_,rfl,?_⟩
  refine SLC_l (by rw [List.length_map]; split <;> first | decide | omega) ?_
  refine EV_List ?_
  repeat walk_at "st"
  have hsl:sl (((if script.isEmpty then [8,0,20,3] else script):List Int).map PV.int) none (some 4)=((if script.isEmpty then [8,0,20,3] else script).take 4).map .int:=sl_take4 _
  rw [hsl]
  refine add_ll (by simp; omega) ?_
  rw [show (((if script.isEmpty then [8,0,20,3] else script):List Int).take 4).map PV.int++[.int 2,.int 0,.int 98]=(numbersOf script).map .int from by unfold numbersOf; simp]
  generalize hns:numbersOf script=ns
  refine EXs_cons ?_
  refine EX_Assign_Name hk ?_
  refine EV_Call_flat ?_
  refine EV_builtin hk h.sum ?_
  refine ⟨_,rfl,rfl,?_⟩
  refine EVs_cons ?_
  refine EV_local hk (by rfl) ?_
  refine EVs_nil ?_
  refine CL_sum_l hr0 ?_
  generalize hx:ns.sum=x
  refine EXs_cons ?_
  refine EX_Assign_Name hk ?_
  refine EV_Call_fn hfa1 ?_
  refine EV_global hk h.alts.glob ?_
  refine ⟨rfl,?_⟩
  repeat walk_at "st"
  refine law_alts_spec (Rm.le hr' (by decide)) h.alts ?_
  refine EXs_cons ?_
  refine EX_Assign_Name hk ?_
  refine EV_List ?_
  repeat walk_at "st"
  have ha2:(altsOf (x.fdiv 7)).length=2:=rfl
  refine IX_tD (by decide) (by rw [ha2]; decide) (by rw [ha2]; decide) ?_
  repeat walk_at "st"
  refine IX_tD (by decide) (by rw [ha2]; decide) (by rw [ha2]; decide) ?_
  repeat walk_at "st"
  rw [show ([tx [(altsOf (x.fdiv 7)).getD (0:Int).toNat 0],tx [61],tx [32],tx [(altsOf (x.fdiv 7)).getD (1:Int).toNat 0],tx [9]]:List PV)=(kindsX x).map fun c=>tx [c] from rfl]
  refine add_ll (by simp [kindsX]) ?_
  have h5:=fmod_range x 5 (by decide)
  have h3:=fmod_range (x.fdiv 5) 3 (by decide)
  refine PT_some ?_
  repeat walk_at "st"
  refine ⟨_,rfl,?_⟩
  refine PT_some ?_
  repeat walk_at "st"
  refine ⟨_,rfl,?_⟩
  refine SLC_l (by simp [kindsX]) ?_
  have hsg:sl (((kindsX x).map fun c=>tx [c])++((kindsX x).map fun c=>tx [c])) (some (x.fmod 5)) (some (x.fmod 5 + 1 + (x.fdiv 5).fmod 3))=(signsX x).map fun c=>tx [c]:=by
   obtain ⟨a,ha⟩:=Int.eq_ofNat_of_zero_le h5.1
   obtain ⟨b,hb⟩:=Int.eq_ofNat_of_zero_le h3.1
   have h51:=h5.2
   have h31:=h3.2
   unfold signsX
   rw [ha] at h51 ⊢
   rw [hb] at h31 ⊢
   rw [show ((a:Int) + 1 + (b:Int))=((a + 1 + b:Nat):Int) by omega,sl_mid (by simp [kindsX]; omega) (by simp [kindsX]; omega)]
   rw [← List.map_append,← List.map_drop,← List.map_take,Int.toNat_natCast,Int.toNat_natCast]
   congr 2
   omega
  rw [hsg]
  refine EXs_cons ?_
  refine EX_Assign_swapped (names:=["width","name"]) hr0 ?_
  repeat walk_at "st"
  refine mul_ii (mulOk_right (by decide)) ?_
  repeat walk_at "st"
  refine ⟨_,rfl,rfl,?_⟩
  repeat walk_at "asg"
  have hsub:∀ c∈signsX x,c∈signs23:=signsX_sub x
  have hsl3:(signsX x).length≤3:=by
   unfold signsX; rw [List.length_take]; omega
  refine EXs_cons ?_
  refine EX_Assign_Comp (cl:=[]) (caps:=[]) hk ⟨rfl,rfl,rfl,rfl,fun x hx=>by cases hx⟩ ?_
  refine SRC_of ?_
  refine EV_local hk (by rfl) ?_
  refine ⟨_,IT_lst hr0,?_⟩
  intro D C
  refine CompP_mapL (fun (c:Nat)=>tx [c]) (fun (c:Nat)=>(ruleOf c).pv) ?_ (by simp; omega) ?_
  ·intro c hc acc
   obtain ⟨pa,pb,ok⟩:=signOk (hsub c hc)
   refine AS1_name (by walk_at "env") ?_
   refine EV_Tuple ?_
   refine EVs_cons ?_
   refine EV_local (by walk_at "env") (by with_unfolding_all rfl) ?_
   refine EVs_cons ?_
   refine EV_Call_fn hfa3 ?_
   refine EV_global (by walk_at "env") h.sets.glob ?_
   refine ⟨rfl,?_⟩
   refine EVs_cons ?_
   refine EV_Call_fn hfa4 ?_
   refine EV_global (by walk_at "env") h.trl.glob ?_
   refine ⟨rfl,?_⟩
   refine EVs_cons ?_
   refine EV_Call_fn hfa2 ?_
   refine EV_global (by walk_at "env") h.pat.glob ?_
   refine ⟨rfl,?_⟩
   refine EVs_cons ?_
   refine EV_local (by walk_at "env") (by with_unfolding_all rfl) ?_
   refine EVs_nil ?_
   refine law_pattern_spec (Rm.le hr' (by decide)) h.pat ?_
   refine EVs_nil ?_
   refine translate_spec (Rm.le hr' (by decide)) h.trl h.tr h.join h.obj (by have:=ok.lp; omega) ok.tr (by have:=ok.la; omega) (by have:=ok.lb; omega) ?_
   refine EVs_nil ?_
   refine law_sets_spec (Rm.le hr' (by decide)) h.sets h.len ok.st ok.en rfl ok.run (by have:=ok.la; have:=ok.lb; unfold joined; simp; omega) ?_
   refine EVs_nil ?_
   refine ⟨by simp,?_,rfl,by walk_at "sub"⟩
   unfold Rule.pv
   rw [ruleOf_sign]
   rfl
  show EXs _ _ _ _ _ _
  refine EXs_cons ?_
  refine EX_If ?_
  refine TR_plain ?_
  refine EV_ListComp (cl:=[]) (caps:=[]) ⟨rfl,rfl,rfl,rfl,fun x hx=>by simp at hx⟩ ?_
  refine SRC_of ?_
  refine EV_local hk (by with_unfolding_all rfl) ?_
  refine ⟨_,IT_lst hr0,?_⟩
  intro D2 C2
  refine CompP_filter (fun p=>p) (fun _=>false) ?_ (by simp; omega) ?_
  ·intro p hp acc
   simp only [List.nil_append,List.mem_map] at hp
   obtain ⟨c,hc,rfl⟩:=hp
   refine AS1_tup (Rm.le hr' (by decide)) rfl ?_
   repeat walk_at "asg"
   refine TR_Compare ?_
   refine EV_Call_flat ?_
   refine EV_builtin (by walk_at "env") h.len ?_
   refine ⟨_,rfl,rfl,?_⟩
   refine EVs_cons ?_
   refine EV_local (by walk_at "env") (by with_unfolding_all rfl) ?_
   refine EVs_nil ?_
   refine CL_len_l (by simp) ?_
   refine EV_int ?_
   refine c_ne_ii ?_
   refine TT_bool ?_
   refine ⟨rfl,rfl,by walk_at "sub"⟩
  have hfil:∀ l:List PV,l.filter (fun _=>false)=[]:=fun l=>by
   induction l with
   | nil=>rfl
   | cons _ _ ih=>rw [List.filter_cons]; exact ih
  rw [hfil]
  refine TT_lst (by simp) ?_
  show EXs _ _ _ _ _ _
  refine EXs_nil ?_
  have hns7:ns.length≤7:=by rw [← hns]; unfold numbersOf; rw [List.length_append,List.length_take]; simp; omega
  have hlt:∀ n∈altsX x,n < 256:=altsX_lt x
  refine EXs_cons ?_
  refine EX_Assign_Name hk ?_
  refine EV_Call_fn hfa5 ?_
  refine EV_global hk h.words.glob ?_
  refine ⟨rfl,?_⟩
  refine EVs_cons ?_
  refine EV_local hk (by with_unfolding_all rfl) ?_
  refine EVs_cons ?_
  refine EV_local hk (by with_unfolding_all rfl) ?_
  refine EVs_cons ?_
  refine EV_Compare ?_
  repeat walk_at "st"
  refine law_words_spec (Rm.le hr' (by decide)) h.words h.word h.writing h.range h.len h.rev rfl (by omega) ?_
  refine EXs_cons ?_
  refine EX_Assign_Name hk ?_
  refine EV_Call_flat ?_
  refine EV_builtin hk h.bytes ?_
  refine ⟨_,rfl,rfl,?_⟩
  refine EVs_cons ?_
  refine EV_ListComp (cl:=[]) (caps:=[]) ⟨rfl,rfl,rfl,rfl,fun x hx=>by simp at hx⟩ ?_
  refine SRC_of ?_
  refine EV_local hk (by with_unfolding_all rfl) ?_
  refine ⟨chars (ofL (altsX x)),IT_str hr0,?_⟩
  rw [chars_ofL]
  intro D3 C3
  refine CompP_mapL (fun (c:Nat)=>tx [c]) (fun (c:Nat)=>.int (c:Int)) ?_ (by show 0 + 2≤1000000; decide) ?_
  ·intro c hc acc
   refine AS1_name (by walk_at "env") ?_
   refine EV_Call_flat ?_
   refine EV_builtin (by walk_at "env") h.ord ?_
   refine ⟨_,rfl,rfl,?_⟩
   refine EVs_cons ?_
   refine EV_local (by walk_at "env") (by with_unfolding_all rfl) ?_
   refine EVs_nil ?_
   refine CL_ord ?_
   refine ⟨rfl,rfl,by walk_at "sub"⟩
  rw [List.nil_append]
  refine EVs_nil ?_
  refine CL_bytes_l hr0 hlt (by show 2≤16777216; decide) ?_
  generalize hws:wordsGo (altsOf (x.fdiv 7)) _ true ns=ws
  have hwok:∀ w∈ws,w.gap.length≤5∧w.octs.length≤8∧∀ n∈w.octs,n < 256:=by
   rw [← hws]; exact wordsGo_ok ns true
  have hwl:ws.length≤7:=by rw [← hws,wordsGo_len]; exact hns7
  refine EXs_cons ?_
  refine EX_Assign_Name hk ?_
  refine EV_strL _ ?_ (by walk_at "lit")
  refine EXs_cons ?_
  refine EX_ForS ?_
  refine SRC_of ?_
  refine EV_local hk (by with_unfolding_all rfl) ?_
  refine ⟨_,IT_lst hr0,?_⟩
  refine ForP_ind (fun xs σ'=>∃ done rest,ws=done++rest∧xs=rest.map Word.pv∧∃ loc',σ'=⟨loc',σ.zone⟩∧Sub loc' [("alts",tx (altsX x)),("two",.byt ((altsX x).map fun (n:Nat)=>n.toUInt8).toArray),("told",tx (toldOf (altsX x) done)),("words",.lst (ws.map Word.pv)),("rules",.lst ((signsX x).map fun c=>(ruleOf c).pv)),("signs",.lst ((signsX x).map fun c=>tx [c])),("width",.int (widthX x)),("name",.int (nameX x))]) ?_ ?_ _ _ ⟨[],ws,rfl,rfl,_,rfl,by walk_at "sub"⟩
  ·rintro _ ⟨done,rest,hdr,hx2,loc',rfl,hsb⟩
   have hrest:rest=[]:=by cases rest with | nil=>rfl | cons a b=>cases hx2
   subst hrest
   rw [List.append_nil] at hdr
   subst hdr
   obtain ⟨bare,hws⟩:∃ bare,wordsGo (altsX x) bare true ns=ws:=⟨_,hws⟩
   have hn3:=fmod_range (x.fdiv 2) 3 (by decide)
   have hname:nameX x=((nameX x).toNat:Nat):=by unfold nameX; omega
   have hname2:(nameX x).toNat≤1000:=by unfold nameX; omega
   have hnsne:ns≠[]:=fun q=>by rw [← hns] at q; unfold numbersOf at q; simp at q
   have PL:=plain_law (x:=x) (bare:=bare) (ns:=ns) hnsne (by omega) (width:=widthX x) (name:=(nameX x).toNat) hname2
   dsimp only at PL
   rw [hws,← hname] at PL
   obtain ⟨pl1,pl2,pl3,pl4⟩:=PL
   have htl:(toldOf (altsX x) ws).length≤100000:=by
    have h1:=told_len (alts:=altsX x) ws fun w hw=>⟨(hwok w hw).1,(hwok w hw).2.1⟩
    omega
   refine EXs_weak (Sub.weak' hsb rfl) ?_
   refine EXs_nil ?_
   refine EXs_cons ?_
   refine EX_Assign_Name hk ?_
   refine EV_Call_fn hfa7 ?_
   refine EV_global hk h.folded.glob ?_
   refine ⟨rfl,?_⟩
   refine EVs_cons ?_
   refine EV_local hk (by with_unfolding_all rfl) ?_
   refine EVs_cons ?_
   refine EV_local hk (by with_unfolding_all rfl) ?_
   refine EVs_cons ?_
   refine EV_local hk (by with_unfolding_all rfl) ?_
   refine EVs_cons ?_
   refine EV_Meth ?_
   refine EV_strL _ ?_ (by walk_at "lit")
   refine ⟨_,MT_join,?_⟩
   refine EVs_cons ?_
   refine EV_local hk (by with_unfolding_all rfl) ?_
   refine EVs_nil ?_
   rw [show ((signsX x).map fun c=>tx [c])=((signsX x).map fun c=>[c]).map tx from by rw [List.map_map]; rfl]
   have hjs:joinL [] ((signsX x).map fun c=>[c])=signsX x:=by
    have:∀ l:List Nat,joinL [] (l.map fun k=>[k])=l:=fun l=>by
     rw [joinL_nil]
     induction l with
     | nil=>rfl
     | cons a r ih=>rw [List.map_cons,List.flatten_cons,ih]; rfl
    exact this _
   refine CL_join (by
    unfold JoinFit
    have:(((signsX x).map fun k=>[k]).map (·.length)).sum=(signsX x).length:=by
     have:∀ l:List Nat,((l.map fun k=>[k]).map (·.length)).sum=l.length:=fun l=>by
      induction l with
      | nil=>rfl
      | cons a r ih=>rw [List.map_cons,List.map_cons,List.sum_cons,ih,List.length_cons]; simp; omega
     exact this _
    rw [this]; simp; omega) ?_
   rw [hjs]
   refine EVs_nil ?_
   refine law_folded_spec (Rm.le hr' (by decide)) h.folded h.vfok h.re1 h.pat1 (by omega) (by omega) (by omega) htl pl1 pl3 ?_
   dsimp only
   rw [strs_tx]
   refine EXs_cons ?_
   refine EX_If ?_
   refine TR_Compare ?_
   refine EV_local hk (by with_unfolding_all rfl) ?_
   have hrules:((signsX x).map fun c=>(ruleOf c).pv)=((signsX x).map ruleOf).map Rule.pv:=by rw [List.map_map]; rfl
   refine EV_Call_fn hfa8 ?_
   refine EV_global hk h.rows.glob ?_
   refine ⟨rfl,?_⟩
   refine EVs_cons ?_
   refine EV_local hk (by with_unfolding_all rfl) ?_
   refine EVs_cons ?_
   refine EV_local hk (by with_unfolding_all rfl) ?_
   refine EVs_cons ?_
   refine EV_local hk (by with_unfolding_all rfl) ?_
   refine EVs_cons ?_
   refine EV_local hk (by with_unfolding_all rfl) ?_
   refine EVs_cons ?_
   refine EV_local hk (by with_unfolding_all rfl) ?_
   refine EVs_cons ?_
   refine EV_bool ?_
   refine EVs_nil ?_
   rw [hrules]
   have law:=fun (turned:Bool) {P:PV→AS→Prop} {σ:AS} (hp:P (.lst ((rowsOf ws (widthX x) (nameX x).toNat ((signsX x).map ruleOf) (altsX x) turned).map tx)) σ)=>law_rows_spec (F:=fnFm (mkF 37 "law" c pm) L f) (Rm.le hr' (by decide)) h.rows h.place h.oct h.byPat h.last h.len h.range h.sum (alts:=altsX x) rfl pl2 (by omega) hp
   simp only [← hname] at law
   refine law false ?_
   refine ne_lsts hr0 ?_
   refine TT_bool ?_
   rw [pl4 false,decide_eq_true rfl]
   show EXs _ _ _ _ _ _
   refine EXs_nil ?_
   refine EXs_cons ?_
   refine EX_Return ?_
   refine EV_Compare ?_
   refine EV_local hk (by with_unfolding_all rfl) ?_
   refine EV_Call_fn hfa8 ?_
   refine EV_global hk h.rows.glob ?_
   refine ⟨rfl,?_⟩
   refine EVs_cons ?_
   refine EV_local hk (by with_unfolding_all rfl) ?_
   refine EVs_cons ?_
   refine EV_local hk (by with_unfolding_all rfl) ?_
   refine EVs_cons ?_
   refine EV_local hk (by with_unfolding_all rfl) ?_
   refine EVs_cons ?_
   refine EV_local hk (by with_unfolding_all rfl) ?_
   refine EVs_cons ?_
   refine EV_local hk (by with_unfolding_all rfl) ?_
   refine EVs_cons ?_
   refine EV_bool ?_
   refine EVs_nil ?_
   refine law true ?_
   refine eq_lsts hr0 ?_
   rw [show rowsOf ws (widthX x) (nameX x).toNat ((signsX x).map ruleOf) (altsX x) false=rowsOf ws (widthX x) (nameX x).toNat ((signsX x).map ruleOf) (altsX x) true from by rw [← pl4 false,pl4 true],decide_eq_true rfl]
   exact Ends.mk [] rfl hP
  ·rintro _ xs _ ⟨done,rest,hdr,hx,loc',rfl,hsb⟩
   cases rest with
   | nil=>cases hx
   | cons w rest =>
    cases hx
    obtain ⟨g1,g2,g3⟩:=hwok w (by rw [hdr]; simp)
    have htl:(toldOf (altsX x) done).length≤1000000:=by
     have h1:=told_len (alts:=altsX x) done fun w hw=>⟨(hwok w (by rw [hdr]; simp [hw])).1,(hwok w (by rw [hdr]; simp [hw])).2.1⟩
     have h2:done.length≤ws.length:=by rw [hdr,List.length_append]; omega
     omega
    refine AS1_weak (Sub.weak' hsb rfl) (fun _ h=>h) ?_
    refine AS1_tup (Rm.le hr' (by decide)) rfl ?_
    repeat walk_at "asg"
    refine EXs_cons ?_
    refine EX_Aug_Name hk (by with_unfolding_all rfl) ?_
    refine EV_BinOp ?_
    refine EV_local hk (by with_unfolding_all rfl) ?_
    refine EV_Meth ?_
    refine EV_strL _ ?_ (by walk_at "lit")
    refine ⟨_,MT_join,?_⟩
    refine EVs_cons ?_
    refine EV_ListComp (cl:=[]) (caps:=[]) ⟨rfl,rfl,rfl,rfl,fun x hx=>by simp at hx⟩ ?_
    refine SRC_of ?_
    refine EV_Call_fn hfa6 ?_
    refine EV_global hk h.b64.glob ?_
    refine ⟨rfl,?_⟩
    refine EVs_cons ?_
    refine EV_Call_flat ?_
    refine EV_builtin hk h.bytes ?_
    refine ⟨_,rfl,rfl,?_⟩
    refine EVs_cons ?_
    refine EV_local hk (by with_unfolding_all rfl) ?_
    refine EVs_nil ?_
    refine CL_bytes_l (ns:=w.octs) hr0 g3 (by omega) ?_
    refine EVs_cons ?_
    refine EV_local hk (by with_unfolding_all rfl) ?_
    refine EVs_nil ?_
    have hal:(((altsX x).map fun (n:Nat)=>n.toUInt8).toArray:Array UInt8) = #[((altsX x).getD 0 0).toUInt8,((altsX x).getD 1 0).toUInt8]:=rfl
    rw [hal]
    refine b64_spec (Rm.le hr' (by decide)) h.b64 h.b2a h.len g3 (by omega) (by have:=b2a_len w.octs; omega) (hlt _ (by simp [altsX,altsOf])) (hlt _ (by simp [altsX,altsOf])) ?_
    have henc:∀ n∈(b2a w.octs).map (encN ((altsX x).getD 0 0) ((altsX x).getD 1 0)),n < 256:=by
     intro n hn
     obtain ⟨k,hk1,rfl⟩:=List.mem_map.mp hn
     unfold encN
     split
     ·exact hlt _ (by simp [altsX,altsOf])
     ·split
      ·exact hlt _ (by simp [altsX,altsOf])
      ·exact b2a_lt k hk1
    have hbl:=b2a_len w.octs
    refine ⟨_,IT_byt hr0,?_⟩
    rw [octs_of henc]
    generalize henl:(b2a w.octs).map (encN ((altsX x).getD 0 0) ((altsX x).getD 1 0))=en at henc
    have henll:en.length≤19:=by rw [← henl,List.length_map]; omega
    intro D4 C4
    refine CompP_mapL (fun (k:Nat)=>.int (k:Int)) (fun (k:Nat)=>tx [k]) ?_ (by simp; omega) ?_
    ·intro k hkm acc
     have:=henc k hkm
     refine AS1_name (by walk_at "env") ?_
     refine EV_Call_flat ?_
     refine EV_builtin (by walk_at "env") h.chr ?_
     refine ⟨_,rfl,rfl,?_⟩
     refine EVs_cons ?_
     refine EV_local (by walk_at "env") (by with_unfolding_all rfl) ?_
     refine EVs_nil ?_
     refine CL_chr (by omega) ?_
     refine ⟨rfl,rfl,by walk_at "sub"⟩
    rw [List.nil_append,show (en.map fun (k:Nat)=>tx [k])=(en.map fun k=>[k]).map tx from by rw [List.map_map]; rfl]
    refine EVs_nil ?_
    have hj:joinL [] (en.map fun k=>[k])=en:=by
     have:∀ l:List Nat,joinL [] (l.map fun k=>[k])=l:=fun l=>by
      rw [joinL_nil]
      induction l with
      | nil=>rfl
      | cons a r ih=>rw [List.map_cons,List.flatten_cons,ih]; rfl
     exact this en
    refine CL_join (by
     unfold JoinFit
     have:((en.map fun k=>[k]).map (·.length)).sum=en.length:=by
      have:∀ l:List Nat,((l.map fun k=>[k]).map (·.length)).sum=l.length:=fun l=>by
       induction l with
       | nil=>rfl
       | cons a r ih=>rw [List.map_cons,List.map_cons,List.sum_cons,ih,List.length_cons]; simp; omega
      exact this en
     rw [this]; simp; omega) ?_
    rw [hj]
    refine add_tt (by omega) ?_
    refine iadd_tt (by rw [List.length_append]; omega) ?_
    refine EXs_nil ?_
    have ht:toldOf (altsX x) done++(w.gap++en)=toldOf (altsX x) (done++[w]):=by
     unfold toldOf
     rw [List.map_append,List.flatten_append,← henl]
     simp [wordTxt]
    rw [ht]
    refine ⟨_,Weak.refl,fun _ h=>h,done++[w],rest,by rw [hdr]; simp,rfl,_,rfl,by walk_at "sub"⟩
end SC10
section SH1a
open PySem.W PySem.Builtin PySem.Builtin.ObjectAttr
abbrev hR (a:Addr):Value:=.ref a
abbrev hS (s:String) (t:Tok):Value:=.str (Str.ofString s) t
abbrev hE (P:Params) (x:String) (t:Tok) (v:Value):DictEntry:=⟨PyData.keyHash P (Str.ofString x),.str (Str.ofString x) t,v⟩
abbrev cdO (n q:String) (t l a k r1 r2:Nat) (r3 r4:Value) (r5 k2 t4:Nat):Obj:={ cls:=.type "code",data:=.fields #[hS n t,hS q (t + 1),hS "/claim/cut.py" (t + 2),.int l 0,.int a 0,.int 0 0,.int k 0,.int 3 0,hR r1,.bool true,.int 276 0,hR r2,.none,r3,r4,hR r5,.int k2 0,.int l 0,hS "/claim/cut.py" t4] }
abbrev fnOb (fd:FuncData):Obj:={ cls:=.type "function",data:=.func fd }
abbrev f1 (i:Nat) (nm:Str) (c:Addr) (pm dflt kw:Value):Obj:=fnOb { mkF i nm c pm with defaults:=dflt,kwdefaults:=kw }
abbrev f2 (i j:Nat) (nm qn:Str) (c:Addr) (pm dflt ctup:Value) (clos:List (Str × Addr)):Obj:=fnOb (mkM i j nm qn c pm dflt ctup clos)
def hO3 (P:Params):Obj:={ cls:=(.type "dict"),data:=.dict #[hE P "__name__" 165 (hS "law_in0222_01" 816),hE P "__doc__" 166 .none,hE P "__package__" 167 .none,hE P "__loader__" 168 (.builtin "__main__.__loader__#opaque"),hE P "__spec__" 169 .none,hE P "__annotations__" 170 (hR 6),hE P "__builtins__" 171 (hR 4),hE P "__file__" 173 (hS "/claim/cut.py" 172),hE P "__cached__" 174 .none,hE P "_sre" 275 (hR 12),hE P "_wall" 288 (hR 38),hE P "twin_re_1_header" 318 (hR 43),hE P "NL" 320 (hS "\n" 319), hE P "EMPTYSTRING" 322 (hS "" 321), hE P "_ValueFormatter" 436 (hR 116), hE P "_Accumulator" 532 (hR 200), hE P "_buffer" 542 (hR 211), hE P "_truth" 550 (hR 218), hE P "_B64" 552 (.bytes #[65, 66, 67, 68, 69, 70, 71, 72, 73, 74, 75, 76, 77, 78, 79, 80, 81, 82, 83, 84, 85, 86, 87, 88, 89, 90, 97, 98, 99, 100, 101, 102, 103, 104, 105, 106, 107, 108, 109, 110, 111, 112, 113, 114, 115, 116, 117, 118, 119, 120, 121, 122, 48, 49, 50, 51, 52, 53, 54, 55, 56, 57, 43, 47] 551), hE P "b2a_base64" 566 (hR 226), hE P "b64encode" 577 (hR 234), hE P "twin_re_1_fnmatch" 617 (hR 239), hE P "translate" 626 (hR 246), hE P "_special_chars_map" 774 (hR 248), hE P "escape" 781 (hR 258), hE P "_translate" 802 (hR 265), hE P "_join_translated_parts" 815 (hR 272), hE P "_law_alts" 825 (hR 279), hE P "_law_word" 835 (hR 286), hE P "_law_writing" 841 (hR 291), hE P "_law_words" 854 (hR 298), hE P "_law_pattern" 861 (hR 305), hE P "_law_sets" 875 (hR 312), hE P "_law_last" 883 (hR 319), hE P "_law_by_octets" 889 (hR 324), hE P "_law_by_pattern" 895 (hR 329), hE P "_law_place" 908 (hR 336), hE P "_law_rows" 914 (hR 341), hE P "_law_folded" 926 (hR 348), hE P "law" 932 (hR 353)] 40 }
def hO42 (P:Params):Obj:={ cls:=(.type "tuple"),data:=.seq #[(.int 14 0),(.int 4 0),(.int 0 0),(.int 1 0),(.int 4294967295 0),(.int 17 0),(.int 0 0),(.int 24 0),(.int 11 0),(.int 1 0),(.int 4294967295 0),(.int 13 0),(.int 6 0),(.int 16 0),(.int 32 0),(.int 16 0),(.int 9 0),(.int 0 0),(.int 1 0),(.int 17 0),(.int 1 0),(.int 1 0)] 0 }
def hO43 (P:Params):Obj:={ cls:=(.type "re.Pattern"),data:=.fields #[(hS "([ \t]+)" 292),(.int 32 317),(.int 1 0),.none,.none,(hR 42),(.int 0 0)] }
def hO52 (P:Params):Obj:={ cls:=.none,data:=.fields #[] }
def hO56 (P:Params):Obj:=cdO "__init__" "_ValueFormatter.__init__" 335 11 5 0 51 52 (hR 53) (hR 54) 55 343 344
def hO57 (P:Params):Obj:=f2 6 0 "__init__" "_ValueFormatter.__init__" 56 (hS "cpy313.email.header" 289) .none .none []
def hO59 (P:Params):Obj:={ cls:=.none,data:=.fields #[] }
def hO63 (P:Params):Obj:=cdO "_str" "_ValueFormatter._str" 346 19 2 0 58 59 (hR 60) (hR 61) 62 351 352
def hO64 (P:Params):Obj:=f2 6 1 "_str" "_ValueFormatter._str" 63 (hS "cpy313.email.header" 289) .none .none []
def hO73 (P:Params):Obj:={ cls:=.none,data:=.fields #[] }
def hO77 (P:Params):Obj:=cdO "newline" "_ValueFormatter.newline" 361 26 1 0 72 73 (hR 74) (hR 75) 76 366 367
def hO78 (P:Params):Obj:=f2 6 3 "newline" "_ValueFormatter.newline" 77 (hS "cpy313.email.header" 289) .none .none []
def hO87 (P:Params):Obj:={ cls:=.none,data:=.fields #[] }
def hO91 (P:Params):Obj:=cdO "feed" "_ValueFormatter.feed" 376 40 4 0 86 87 (hR 88) (hR 89) 90 387 388
def hO92 (P:Params):Obj:=f2 6 5 "feed" "_ValueFormatter.feed" 91 (hS "cpy313.email.header" 289) .none .none []
def hO101 (P:Params):Obj:={ cls:=.none,data:=.fields #[] }
def hO105 (P:Params):Obj:=cdO "_ascii_split" "_ValueFormatter._ascii_split" 397 65 4 0 100 101 (hR 102) (hR 103) 104 406 407
def hO106 (P:Params):Obj:=f2 6 7 "_ascii_split" "_ValueFormatter._ascii_split" 105 (hS "cpy313.email.header" 289) .none .none []
def hO108 (P:Params):Obj:={ cls:=.none,data:=.fields #[] }
def hO112 (P:Params):Obj:=cdO "_append_chunk" "_ValueFormatter._append_chunk" 409 74 3 0 107 108 (hR 109) (hR 110) 111 420 421
def hO113 (P:Params):Obj:=f2 6 8 "_append_chunk" "_ValueFormatter._append_chunk" 112 (hS "cpy313.email.header" 289) .none .none []
def hO115 (P:Params):Obj:={ cls:=(.type "dict"),data:=.dict #[hE P "__module__" 330 (hS "cpy313.email.header" 289),hE P "__firstlineno__" 334 (.int 9 333),hE P "__init__" 345 (hR 57),hE P "_str" 353 (hR 64),hE P "__str__" 360 (hR 71),hE P "newline" 368 (hR 78),hE P "add_transition" 375 (hR 85),hE P "feed" 389 (hR 92),hE P "_maxlengths" 396 (hR 99),hE P "_ascii_split" 408 (hR 106),hE P "_append_chunk" 422 (hR 113),hE P "__static_attributes__" 429 (hR 114),hE P "__dict__" 431 (hR 117),hE P "__weakref__" 433 (hR 118),hE P "__doc__" 434 .none] 4 }
def hO116 (P:Params):Obj:={ cls:=(.type "type"),data:=.cls ⟨(Str.ofString "_ValueFormatter"),[(.type "object")],[(hR 116),(.type "object")],115,(Str.ofString "_ValueFormatter"),true,[],[],false,none,false⟩,slots:=#[none,none,some (hS "_ValueFormatter" 323),some (hS "_ValueFormatter" 331),some (.builtin "object.__new__"),some (.bool true)] }
def hO124 (P:Params):Obj:={ cls:=(.type "cell"),data:=.cell (some (hR 200)) }
def hO129 (P:Params):Obj:={ cls:=(.type "tuple"),data:=.seq #[(.int 0 449)] 0 }
def hO132 (P:Params):Obj:={ cls:=.none,data:=.fields #[] }
def hO136 (P:Params):Obj:=cdO "__init__" "_Accumulator.__init__" 450 102 2 0 131 132 (hR 133) (hR 134) 135 456 457
def hO137 (P:Params):Obj:=f2 7 0 "__init__" "_Accumulator.__init__" 136 (hS "cpy313.email.header" 289) (hR 129) (hR 130) [("__class__",124)]
def hO139 (P:Params):Obj:={ cls:=.none,data:=.fields #[] }
def hO143 (P:Params):Obj:=cdO "push" "_Accumulator.push" 459 106 3 0 138 139 (hR 140) (hR 141) 142 465 466
def hO144 (P:Params):Obj:=f2 7 1 "push" "_Accumulator.push" 143 (hS "cpy313.email.header" 289) .none .none []
def hO145 (P:Params):Obj:={ cls:=(.type "tuple"),data:=.seq #[(.int 0 468)] 0 }
def hO147 (P:Params):Obj:={ cls:=.none,data:=.fields #[] }
def hO151 (P:Params):Obj:=cdO "pop_from" "_Accumulator.pop_from" 469 109 2 0 146 147 (hR 148) (hR 149) 150 475 476
def hO152 (P:Params):Obj:=f2 7 2 "pop_from" "_Accumulator.pop_from" 151 (hS "cpy313.email.header" 289) (hR 145) .none []
def hO155 (P:Params):Obj:={ cls:=.none,data:=.fields #[] }
def hO159 (P:Params):Obj:=cdO "pop" "_Accumulator.pop" 478 114 1 0 154 155 (hR 156) (hR 157) 158 483 484
def hO160 (P:Params):Obj:=f2 7 3 "pop" "_Accumulator.pop" 159 (hS "cpy313.email.header" 289) .none (hR 153) [("__class__",124)]
def hO162 (P:Params):Obj:={ cls:=.none,data:=.fields #[] }
def hO166 (P:Params):Obj:=cdO "__len__" "_Accumulator.__len__" 486 119 1 0 161 162 (hR 163) (hR 164) 165 490 491
def hO167 (P:Params):Obj:=f2 7 4 "__len__" "_Accumulator.__len__" 166 (hS "cpy313.email.header" 289) .none .none []
def hO169 (P:Params):Obj:={ cls:=.none,data:=.fields #[] }
def hO173 (P:Params):Obj:=cdO "__str__" "_Accumulator.__str__" 493 122 1 0 168 169 (hR 170) (hR 171) 172 497 498
def hO174 (P:Params):Obj:=f2 7 5 "__str__" "_Accumulator.__str__" 173 (hS "cpy313.email.header" 289) .none .none []
def hO175 (P:Params):Obj:={ cls:=(.type "tuple"),data:=.seq #[.none] 0 }
def hO177 (P:Params):Obj:={ cls:=.none,data:=.fields #[] }
def hO181 (P:Params):Obj:=cdO "reset" "_Accumulator.reset" 500 125 2 0 176 177 (hR 178) (hR 179) 180 505 506
def hO182 (P:Params):Obj:=f2 7 6 "reset" "_Accumulator.reset" 181 (hS "cpy313.email.header" 289) (hR 175) .none []
def hO184 (P:Params):Obj:={ cls:=.none,data:=.fields #[] }
def hO188 (P:Params):Obj:=cdO "is_onlyws" "_Accumulator.is_onlyws" 508 131 1 0 183 184 (hR 185) (hR 186) 187 512 513
def hO189 (P:Params):Obj:=f2 7 7 "is_onlyws" "_Accumulator.is_onlyws" 188 (hS "cpy313.email.header" 289) .none .none []
def hO192 (P:Params):Obj:={ cls:=.none,data:=.fields #[] }
def hO196 (P:Params):Obj:=cdO "part_count" "_Accumulator.part_count" 515 134 1 0 191 192 (hR 193) (hR 194) 195 520 521
def hO197 (P:Params):Obj:=f2 7 8 "part_count" "_Accumulator.part_count" 196 (hS "cpy313.email.header" 289) .none (hR 190) [("__class__",124)]
def hO199 (P:Params):Obj:={ cls:=(.type "dict"),data:=.dict #[hE P "__module__" 444 (hS "cpy313.email.header" 289),hE P "__firstlineno__" 448 (.int 100 447),hE P "__init__" 458 (hR 137),hE P "push" 467 (hR 144),hE P "pop_from" 477 (hR 152),hE P "pop" 485 (hR 160),hE P "__len__" 492 (hR 167),hE P "__str__" 499 (hR 174),hE P "reset" 507 (hR 182),hE P "is_onlyws" 514 (hR 189),hE P "part_count" 522 (hR 197),hE P "__static_attributes__" 524 (hR 198),hE P "__dict__" 527 (hR 201),hE P "__weakref__" 529 (hR 202),hE P "__doc__" 530 .none] 5 }
def hO200 (P:Params):Obj:={ cls:=(.type "type"),data:=.cls ⟨(Str.ofString "_Accumulator"),[(.type "list")],[(hR 200),(.type "list"),(.type "object")],199,(Str.ofString "_Accumulator"),true,[],[],false,none,false⟩,slots:=#[some (hR 121),none,some (hS "_Accumulator" 437),some (hS "_Accumulator" 445),some (.builtin "list.__new__"),some (.bool true)] }
def hO210 (P:Params):Obj:=cdO "_buffer" "_buffer" 535 137 1 0 205 206 (hR 207) (hR 208) 209 540 541
def hO211 (P:Params):Obj:=f1 9 "_buffer" 210 (hS "binascii" 533) .none .none
def hO217 (P:Params):Obj:=cdO "_truth" "_truth" 543 144 1 0 212 213 (hR 214) (hR 215) 216 548 549
def hO218 (P:Params):Obj:=f1 10 "_truth" 217 (hS "binascii" 533) .none .none
def hO225 (P:Params):Obj:={ cls:=(.type "code"),data:=.fields #[(hS "b2a_base64" 554),(hS "b2a_base64" 555),(hS "/claim/cut.py" 556),(.int 150 0),(.int 1 0),(.int 1 0),(.int 1 0),(.int 3 0),(hR 220),(.bool true),(.int 276 0),(hR 221),.none,(hR 222),(hR 223),(hR 224),(.int 564 0),(.int 150 0),(hS "/claim/cut.py" 565)] }
def hO226 (P:Params):Obj:=f1 12 "b2a_base64" 225 (hS "binascii" 533) .none (hR 219)
def hO227 (P:Params):Obj:={ cls:=(.type "tuple"),data:=.seq #[.none] 0 }
def hO233 (P:Params):Obj:=cdO "b64encode" "b64encode" 569 173 2 0 228 229 (hR 230) (hR 231) 232 575 576
def hO234 (P:Params):Obj:=f1 14 "b64encode" 233 (hS "cpy313.base64" 567) (hR 227) .none
def hO238 (P:Params):Obj:={ cls:=(.type "tuple"),data:=.seq #[(.int 14 0),(.int 14 0),(.int 4 0),(.int 1 0),(.int 1 0),(.int 9 0),(.int 0 0),(.int 64 0),(.int 0 0),(.int 1342177280 0),(.int 0 0),(.int 0 0),(.int 0 0),(.int 0 0),(.int 0 0),(.int 17 0),(.int 0 0),(.int 13 0),(.int 11 0),(.int 9 0),(.int 0 0),(.int 64 0),(.int 0 0),(.int 1342177280 0),(.int 0 0),(.int 0 0),(.int 0 0),(.int 0 0),(.int 0 0),(.int 17 0),(.int 1 0),(.int 1 0)] 0 }
def hO239 (P:Params):Obj:={ cls:=(.type "re.Pattern"),data:=.fields #[(hS "([&~|])" 581),(.int 32 616),(.int 1 0),.none,.none,(hR 238),(.int 0 0)] }
def hO245 (P:Params):Obj:=cdO "translate" "translate" 618 181 1 0 240 241 (hR 242) (hR 243) 244 624 625
def hO246 (P:Params):Obj:=f1 17 "translate" 245 (hS "cpy313.fnmatch" 578) .none .none
def hO248 (P:Params):Obj:={ cls:=(.type "dict"),data:=.dict #[⟨40,(.int 40 630),(hS "\\(" 634)⟩,⟨41,(.int 41 636),(hS "\\)" 640)⟩,⟨91,(.int 91 642),(hS "\\[" 646)⟩,⟨93,(.int 93 648),(hS "\\]" 652)⟩,⟨123,(.int 123 654),(hS "\\{" 658)⟩,⟨125,(.int 125 660),(hS "\\}" 664)⟩,⟨63,(.int 63 666),(hS "\\?" 670)⟩,⟨42,(.int 42 672),(hS "\\*" 676)⟩,⟨43,(.int 43 678),(hS "\\+" 682)⟩,⟨45,(.int 45 684),(hS "\\-" 688)⟩,⟨124,(.int 124 690),(hS "\\|" 694)⟩,⟨94,(.int 94 696),(hS "\\^" 700)⟩,⟨36,(.int 36 702),(hS "\\$" 706)⟩,⟨92,(.int 92 708),(hS "\\\\" 712)⟩, ⟨46, (.int 46 714), (hS "\\." 718)⟩, ⟨38, (.int 38 720), (hS "\\&" 724)⟩, ⟨126, (.int 126 726), (hS "\\~" 730)⟩, ⟨35, (.int 35 732), (hS "\\#" 736)⟩, ⟨32, (.int 32 738), (hS "\\ " 742)⟩, ⟨9, (.int 9 744), (hS "\\\t" 748)⟩, ⟨10, (.int 10 750), (hS "\\\n" 754)⟩, ⟨13, (.int 13 756), (hS "\\\r" 760)⟩, ⟨11, (.int 11 762), (hS "\\\x0b" 766)⟩, ⟨12, (.int 12 768), (hS "\\\x0c" 772)⟩] 24 }
def hO257 (P:Params):Obj:=cdO "escape" "escape" 775 187 1 0 252 253 (hR 254) (hR 255) 256 779 780
def hO258 (P:Params):Obj:=f1 20 "escape" 257 (hS "re" 627) .none .none
def hO260 (P:Params):Obj:={ cls:=.none,data:=.fields #[] }
def hO264 (P:Params):Obj:=cdO "_translate" "_translate" 784 194 3 0 259 260 (hR 261) (hR 262) 263 800 801
def hO265 (P:Params):Obj:=f1 22 "_translate" 264 (hS "cpy313.fnmatch" 782) .none .none
def hO271 (P:Params):Obj:=cdO "_join_translated_parts" "_join_translated_parts" 803 256 2 0 266 267 (hR 268) (hR 269) 270 813 814
def hO272 (P:Params):Obj:=f1 23 "_join_translated_parts" 271 (hS "cpy313.fnmatch" 782) .none .none
def hO278 (P:Params):Obj:=cdO "_law_alts" "_law_alts" 818 284 1 0 273 274 (hR 275) (hR 276) 277 823 824
def hO279 (P:Params):Obj:=f1 25 "_law_alts" 278 (hS "law_in0222_01" 816) .none .none
def hO285 (P:Params):Obj:=cdO "_law_word" "_law_word" 826 287 1 0 280 281 (hR 282) (hR 283) 284 833 834
def hO286 (P:Params):Obj:=f1 26 "_law_word" 285 (hS "law_in0222_01" 816) .none .none
def hO290 (P:Params):Obj:=cdO "_law_writing" "_law_writing" 836 293 2 0 287 288 .none .none 289 839 840
def hO291 (P:Params):Obj:=f1 27 "_law_writing" 290 (hS "law_in0222_01" 816) .none .none
def hO297 (P:Params):Obj:=cdO "_law_words" "_law_words" 842 301 3 0 292 293 (hR 294) (hR 295) 296 852 853
def hO298 (P:Params):Obj:=f1 28 "_law_words" 297 (hS "law_in0222_01" 816) .none .none
def hO304 (P:Params):Obj:=cdO "_law_pattern" "_law_pattern" 855 307 1 0 299 300 (hR 301) (hR 302) 303 859 860
def hO305 (P:Params):Obj:=f1 29 "_law_pattern" 304 (hS "law_in0222_01" 816) .none .none
def hO311 (P:Params):Obj:=cdO "_law_sets" "_law_sets" 862 311 1 0 306 307 (hR 308) (hR 309) 310 873 874
def hO312 (P:Params):Obj:=f1 30 "_law_sets" 311 (hS "law_in0222_01" 816) .none .none
def hO318 (P:Params):Obj:=cdO "_law_last" "_law_last" 876 333 2 0 313 314 (hR 315) (hR 316) 317 881 882
def hO319 (P:Params):Obj:=f1 31 "_law_last" 318 (hS "law_in0222_01" 816) .none .none
def hO323 (P:Params):Obj:=cdO "_law_by_octets" "_law_by_octets" 884 337 3 0 320 321 .none .none 322 887 888
def hO324 (P:Params):Obj:=f1 32 "_law_by_octets" 323 (hS "law_in0222_01" 816) .none .none
def hO328 (P:Params):Obj:=cdO "_law_by_pattern" "_law_by_pattern" 890 340 2 0 325 326 .none .none 327 893 894
def hO329 (P:Params):Obj:=f1 33 "_law_by_pattern" 328 (hS "law_in0222_01" 816) .none .none
def hO335 (P:Params):Obj:=cdO "_law_place" "_law_place" 896 350 4 0 330 331 (hR 332) (hR 333) 334 906 907
def hO336 (P:Params):Obj:=f1 34 "_law_place" 335 (hS "law_in0222_01" 816) .none .none
def hO340 (P:Params):Obj:=cdO "_law_rows" "_law_rows" 909 356 6 0 337 338 .none .none 339 912 913
def hO341 (P:Params):Obj:=f1 35 "_law_rows" 340 (hS "law_in0222_01" 816) .none .none
def hO347 (P:Params):Obj:=cdO "_law_folded" "_law_folded" 915 369 4 0 342 343 (hR 344) (hR 345) 346 924 925
def hO348 (P:Params):Obj:=f1 36 "_law_folded" 347 (hS "law_in0222_01" 816) .none .none
def hO352 (P:Params):Obj:=cdO "law" "law" 927 375 1 0 349 350 .none .none 351 930 931
def hO353 (P:Params):Obj:=f1 37 "law" 352 (hS "law_in0222_01" 816) .none .none
def hK (P:Params):Frag:=[(3,hO3 P),(42,hO42 P),(43,hO43 P),(56,hO56 P),(57,hO57 P),(63,hO63 P),(64,hO64 P),(77,hO77 P),(78,hO78 P),(91,hO91 P),(92,hO92 P),(105,hO105 P),(106,hO106 P),(112,hO112 P),(113,hO113 P),(115,hO115 P),(116,hO116 P),(124,hO124 P),(129,hO129 P),(136,hO136 P),(137,hO137 P),(143,hO143 P),(144,hO144 P),(145,hO145 P),(151,hO151 P),(152,hO152 P),(159,hO159 P),(160,hO160 P),(166,hO166 P),(167,hO167 P),(173,hO173 P),(174,hO174 P),(175,hO175 P),(181,hO181 P),(182,hO182 P),(188,hO188 P),(189,hO189 P),(196,hO196 P),(197,hO197 P),(199,hO199 P),(200,hO200 P),(210,hO210 P),(211,hO211 P),(217,hO217 P),(218,hO218 P),(225,hO225 P),(226,hO226 P),(227,hO227 P),(233,hO233 P),(234,hO234 P),(238,hO238 P),(239,hO239 P),(245,hO245 P),(246,hO246 P),(248,hO248 P),(257,hO257 P),(258,hO258 P),(264,hO264 P),(265,hO265 P),(271,hO271 P),(272,hO272 P),(278,hO278 P),(279,hO279 P),(285,hO285 P),(286,hO286 P),(290,hO290 P),(291,hO291 P),(297,hO297 P),(298,hO298 P),(304,hO304 P),(305,hO305 P),(311,hO311 P),(312,hO312 P),(318,hO318 P),(319,hO319 P),(323,hO323 P),(324,hO324 P),(328,hO328 P),(329,hO329 P),(335,hO335 P),(336,hO336 P),(340,hO340 P),(341,hO341 P),(347,hO347 P),(348,hO348 P),(352,hO352 P),(353,hO353 P)]
def hT (P:Params):Frag:=[(52,hO52 P),(59,hO59 P),(73,hO73 P),(87,hO87 P),(101,hO101 P),(108,hO108 P),(132,hO132 P),(139,hO139 P),(147,hO147 P),(155,hO155 P),(162,hO162 P),(169,hO169 P),(177,hO177 P),(184,hO184 P),(192,hO192 P),(260,hO260 P)]
def hAs:List Addr:=[3,42,43,56,57,63,64,77,78,91,92,105,106,112,113,115,116,124,129,136,137,143,144,145,151,152,159,160,166,167,173,174,175,181,182,188,189,196,197,199,200,210,211,217,218,225,226,227,233,234,238,239,245,246,248,257,258,264,265,271,272,278,279,285,286,290,291,297,298,304,305,311,312,318,319,323,324,328,329,335,336,340,341,347,348,352,353,52,59,73,87,101,108,132,139,147,155,162,169,177,184,192,260]
theorem hk3 (P:Params):(hK P).lookup 3=some (hO3 P):=by kernel_rfl
theorem hk42 (P:Params):(hK P).lookup 42=some (hO42 P):=by kernel_rfl
theorem hk43 (P:Params):(hK P).lookup 43=some (hO43 P):=by kernel_rfl
theorem hk56 (P:Params):(hK P).lookup 56=some (hO56 P):=by kernel_rfl
theorem hk57 (P:Params):(hK P).lookup 57=some (hO57 P):=by kernel_rfl
theorem hk63 (P:Params):(hK P).lookup 63=some (hO63 P):=by kernel_rfl
theorem hk64 (P:Params):(hK P).lookup 64=some (hO64 P):=by kernel_rfl
theorem hk77 (P:Params):(hK P).lookup 77=some (hO77 P):=by kernel_rfl
theorem hk78 (P:Params):(hK P).lookup 78=some (hO78 P):=by kernel_rfl
theorem hk91 (P:Params):(hK P).lookup 91=some (hO91 P):=by kernel_rfl
theorem hk92 (P:Params):(hK P).lookup 92=some (hO92 P):=by kernel_rfl
theorem hk105 (P:Params):(hK P).lookup 105=some (hO105 P):=by kernel_rfl
theorem hk106 (P:Params):(hK P).lookup 106=some (hO106 P):=by kernel_rfl
theorem hk112 (P:Params):(hK P).lookup 112=some (hO112 P):=by kernel_rfl
theorem hk113 (P:Params):(hK P).lookup 113=some (hO113 P):=by kernel_rfl
theorem hk124 (P:Params):(hK P).lookup 124=some (hO124 P):=by kernel_rfl
theorem hk129 (P:Params):(hK P).lookup 129=some (hO129 P):=by kernel_rfl
theorem hk136 (P:Params):(hK P).lookup 136=some (hO136 P):=by kernel_rfl
theorem hk137 (P:Params):(hK P).lookup 137=some (hO137 P):=by kernel_rfl
theorem hk143 (P:Params):(hK P).lookup 143=some (hO143 P):=by kernel_rfl
theorem hk144 (P:Params):(hK P).lookup 144=some (hO144 P):=by kernel_rfl
theorem hk145 (P:Params):(hK P).lookup 145=some (hO145 P):=by kernel_rfl
theorem hk151 (P:Params):(hK P).lookup 151=some (hO151 P):=by kernel_rfl
theorem hk152 (P:Params):(hK P).lookup 152=some (hO152 P):=by kernel_rfl
theorem hk159 (P:Params):(hK P).lookup 159=some (hO159 P):=by kernel_rfl
theorem hk160 (P:Params):(hK P).lookup 160=some (hO160 P):=by kernel_rfl
theorem hk166 (P:Params):(hK P).lookup 166=some (hO166 P):=by kernel_rfl
theorem hk167 (P:Params):(hK P).lookup 167=some (hO167 P):=by kernel_rfl
theorem hk173 (P:Params):(hK P).lookup 173=some (hO173 P):=by kernel_rfl
theorem hk174 (P:Params):(hK P).lookup 174=some (hO174 P):=by kernel_rfl
theorem hk175 (P:Params):(hK P).lookup 175=some (hO175 P):=by kernel_rfl
theorem hk181 (P:Params):(hK P).lookup 181=some (hO181 P):=by kernel_rfl
theorem hk182 (P:Params):(hK P).lookup 182=some (hO182 P):=by kernel_rfl
theorem hk188 (P:Params):(hK P).lookup 188=some (hO188 P):=by kernel_rfl
theorem hk189 (P:Params):(hK P).lookup 189=some (hO189 P):=by kernel_rfl
theorem hk196 (P:Params):(hK P).lookup 196=some (hO196 P):=by kernel_rfl
theorem hk197 (P:Params):(hK P).lookup 197=some (hO197 P):=by kernel_rfl
theorem hk210 (P:Params):(hK P).lookup 210=some (hO210 P):=by kernel_rfl
theorem hk211 (P:Params):(hK P).lookup 211=some (hO211 P):=by kernel_rfl
theorem hk217 (P:Params):(hK P).lookup 217=some (hO217 P):=by kernel_rfl
theorem hk218 (P:Params):(hK P).lookup 218=some (hO218 P):=by kernel_rfl
theorem hk225 (P:Params):(hK P).lookup 225=some (hO225 P):=by kernel_rfl
theorem hk226 (P:Params):(hK P).lookup 226=some (hO226 P):=by kernel_rfl
theorem hk227 (P:Params):(hK P).lookup 227=some (hO227 P):=by kernel_rfl
theorem hk233 (P:Params):(hK P).lookup 233=some (hO233 P):=by kernel_rfl
theorem hk234 (P:Params):(hK P).lookup 234=some (hO234 P):=by kernel_rfl
theorem hk238 (P:Params):(hK P).lookup 238=some (hO238 P):=by kernel_rfl
theorem hk239 (P:Params):(hK P).lookup 239=some (hO239 P):=by kernel_rfl
theorem hk245 (P:Params):(hK P).lookup 245=some (hO245 P):=by kernel_rfl
theorem hk246 (P:Params):(hK P).lookup 246=some (hO246 P):=by kernel_rfl
theorem hk248 (P:Params):(hK P).lookup 248=some (hO248 P):=by kernel_rfl
theorem hk257 (P:Params):(hK P).lookup 257=some (hO257 P):=by kernel_rfl
theorem hk258 (P:Params):(hK P).lookup 258=some (hO258 P):=by kernel_rfl
theorem hk264 (P:Params):(hK P).lookup 264=some (hO264 P):=by kernel_rfl
theorem hk265 (P:Params):(hK P).lookup 265=some (hO265 P):=by kernel_rfl
theorem hk271 (P:Params):(hK P).lookup 271=some (hO271 P):=by kernel_rfl
theorem hk272 (P:Params):(hK P).lookup 272=some (hO272 P):=by kernel_rfl
theorem hk278 (P:Params):(hK P).lookup 278=some (hO278 P):=by kernel_rfl
theorem hk279 (P:Params):(hK P).lookup 279=some (hO279 P):=by kernel_rfl
theorem hk285 (P:Params):(hK P).lookup 285=some (hO285 P):=by kernel_rfl
theorem hk286 (P:Params):(hK P).lookup 286=some (hO286 P):=by kernel_rfl
theorem hk290 (P:Params):(hK P).lookup 290=some (hO290 P):=by kernel_rfl
theorem hk291 (P:Params):(hK P).lookup 291=some (hO291 P):=by kernel_rfl
theorem hk297 (P:Params):(hK P).lookup 297=some (hO297 P):=by kernel_rfl
theorem hk298 (P:Params):(hK P).lookup 298=some (hO298 P):=by kernel_rfl
theorem hk304 (P:Params):(hK P).lookup 304=some (hO304 P):=by kernel_rfl
theorem hk305 (P:Params):(hK P).lookup 305=some (hO305 P):=by kernel_rfl
theorem hk311 (P:Params):(hK P).lookup 311=some (hO311 P):=by kernel_rfl
theorem hk312 (P:Params):(hK P).lookup 312=some (hO312 P):=by kernel_rfl
theorem hk318 (P:Params):(hK P).lookup 318=some (hO318 P):=by kernel_rfl
theorem hk319 (P:Params):(hK P).lookup 319=some (hO319 P):=by kernel_rfl
theorem hk323 (P:Params):(hK P).lookup 323=some (hO323 P):=by kernel_rfl
theorem hk324 (P:Params):(hK P).lookup 324=some (hO324 P):=by kernel_rfl
theorem hk328 (P:Params):(hK P).lookup 328=some (hO328 P):=by kernel_rfl
theorem hk329 (P:Params):(hK P).lookup 329=some (hO329 P):=by kernel_rfl
theorem hk335 (P:Params):(hK P).lookup 335=some (hO335 P):=by kernel_rfl
theorem hk336 (P:Params):(hK P).lookup 336=some (hO336 P):=by kernel_rfl
theorem hk340 (P:Params):(hK P).lookup 340=some (hO340 P):=by kernel_rfl
theorem hk341 (P:Params):(hK P).lookup 341=some (hO341 P):=by kernel_rfl
theorem hk347 (P:Params):(hK P).lookup 347=some (hO347 P):=by kernel_rfl
theorem hk348 (P:Params):(hK P).lookup 348=some (hO348 P):=by kernel_rfl
theorem hk352 (P:Params):(hK P).lookup 352=some (hO352 P):=by kernel_rfl
theorem hk353 (P:Params):(hK P).lookup 353=some (hO353 P):=by kernel_rfl
theorem hk52 (P:Params):(hT P).lookup 52=some (hO52 P):=by kernel_rfl
theorem hk59 (P:Params):(hT P).lookup 59=some (hO59 P):=by kernel_rfl
theorem hk73 (P:Params):(hT P).lookup 73=some (hO73 P):=by kernel_rfl
theorem hk87 (P:Params):(hT P).lookup 87=some (hO87 P):=by kernel_rfl
theorem hk101 (P:Params):(hT P).lookup 101=some (hO101 P):=by kernel_rfl
theorem hk108 (P:Params):(hT P).lookup 108=some (hO108 P):=by kernel_rfl
theorem hk139 (P:Params):(hT P).lookup 139=some (hO139 P):=by kernel_rfl
theorem hk162 (P:Params):(hT P).lookup 162=some (hO162 P):=by kernel_rfl
theorem hk169 (P:Params):(hT P).lookup 169=some (hO169 P):=by kernel_rfl
theorem hk184 (P:Params):(hT P).lookup 184=some (hO184 P):=by kernel_rfl
theorem hk260 (P:Params):(hT P).lookup 260=some (hO260 P):=by kernel_rfl
end SH1a
section SH1r
open PySem.W PySem.Builtin PySem.Builtin.ObjectAttr
noncomputable def topRunQ:=@PySem.W.Fast.tw14082659384304107361
theorem topRunQ_eq:@topRun=topRunQ:=PySem.W.Fast.te14082659384304107361
noncomputable def impQ:=@PySem.W.Fast.tw10274390034422433532
theorem impQ_eq:@importEnds=impQ:=PySem.W.Fast.te10274390034422433532
noncomputable def fenceQ:=@PySem.W.Fast.tw14289696077712309145
theorem fenceQ_eq:@fenceModules?=fenceQ:=PySem.W.Fast.te14289696077712309145
noncomputable def tabQ:=@PySem.W.Fast.tw14364793385576792824
theorem tabQ_eq:@treeTable=tabQ:=PySem.W.Fast.te14364793385576792824
noncomputable def seenQ:=@PySem.W.Fast.tw4187177175401517315
theorem seenQ_eq:@openSeen=seenQ:=PySem.W.Fast.te4187177175401517315
noncomputable def runQ (p:Program) (w:World) (N:Nat):Option Shared :=
 ((impQ tabQ (opening p) w N (start (opening p)).1 (start (opening p)).2).bind (fenceQ p)).bind fun s₀ =>
  match s₀.heap.isNs mainGlobals && s₀.gens.size == 0 with
  | true=>(topRunQ tabQ p w s₀.heap.objs.size (s₀.heap.nsMap mainGlobals "__annotations__") N s₀ (topStub p)).bind fun s₁=>match staticsOk (importedModules p.main.body) s₀.heap s₁.heap && namesBound p s₁.heap && gensDone s₁ && laidKept s₀.heap s₁.heap with
    | true=>some s₁
    | false=>none
  | false=>none
theorem runQ_eq {p:Program} {w:World} {N:Nat}:openEnds treeTable p w N=runQ p w N:=by
 unfold openEnds fencedOpening topFrom runQ
 rw [topRunQ_eq,impQ_eq,fenceQ_eq,tabQ_eq]
 rfl
abbrev P1:Program:=PySem.Challenge.pw_in0222_01
noncomputable def V1:Program:={ P1 with main:={ P1.main with body:=[stAt 0,stAt 37] } }
def loose1:List Str:=["_wall","twin_re_1_header","NL","EMPTYSTRING","_ValueFormatter","_Accumulator","_buffer","_truth","_B64","b2a_base64","b64encode","twin_re_1_fnmatch","translate","_special_chars_map","escape","_translate","_join_translated_parts","_law_alts","_law_word","_law_writing","_law_words","_law_pattern","_law_sets","_law_last","_law_by_octets","_law_by_pattern","_law_place","_law_rows","_law_folded"]
def Yf1 (s:Shared):List (Option Obj) × Option Value × Option (Option Value):=(hAs.map s.heap.get?,(s.heap.get? builtinsNs).map (·.cls),(s.heap.get? cStatics).map fun _=>staticOf s.heap "thirdparty.any")
def Ya1 (w:World):List (Option Obj) × Option Value × Option (Option Value):=((hK w.params++hT w.params).map fun p=>some p.2,some (.type "dict"),some none)
abbrev w2 (w:World) (a b:Bool):World:=(w.withFollow "comprehension-iter-twice" a).withFollow "special-get-raises" b
abbrev Run1 (w:World):Prop:=(runQ P1 w 7000).map (fun s=>(seenQ V1 loose1 (importedModules P1.main.body) (fun _=>true) true s,Yf1 s))=some (openGood V1 loose1,Ya1 w)
theorem run_ff (w:World):Run1 (w2 w false false):=by kernel_rfl
theorem run_ft (w:World):Run1 (w2 w false true):=by kernel_rfl
theorem run_tf (w:World):Run1 (w2 w true false):=by kernel_rfl
theorem run_tt (w:World):Run1 (w2 w true true):=by kernel_rfl
theorem byRow2 {X:World→Prop} (h:∀ w a b,X (w2 w a b)) (w:World):X w:=by
 have h1:=h w (w.params.followText "comprehension-iter-twice") ((w.withFollow "comprehension-iter-twice" (w.params.followText "comprehension-iter-twice")).params.followText "special-get-raises")
 unfold w2 at h1
 rw [World.withFollow_self,World.withFollow_self] at h1
 exact h1
theorem left1:LeftO P1 V1 loose1 (fun _=>true) Yf1 Ya1 7000:=by
 refine byRow2 fun w a b=>?_
 rw [runQ_eq,seenQ_eq]
 cases a <;> cases b
 ·exact run_ff w
 ·exact run_ft w
 ·exact run_tf w
 ·exact run_tt w
end SH1r
section SH2
open PySem.W PySem.Builtin PySem.Builtin.ObjectAttr
abbrev gl (w:World) (h:Heap) (os:OsState):Gl:=⟨P1,w,h,os⟩
def esOf (o:Obj):Array DictEntry:=match o.data with
 | .dict es _=>es
 | _=>#[]
def mgl (P:Params) (x:Str):Option Value:=((esOf (hO3 P)).toList.find? fun e=>e.key.isStr x).map (·.val)
structure Env2 (w:World) (h:Heap):Prop where
 kin:(hK w.params).In h
 tin:(hT w.params).In h
 mg:∃ mg,h.Ns mainGlobals mg∧∀ x,mg x=mgl w.params x
 b:∃ mb ob,h.Ns builtinsNs mb∧(∀ x:Str,x≠"__name__"→mb x=bootBuiltins x)∧h.get? builtinsNs=some ob∧ob.cls=.type "dict"
 bm:∃ bm ob,mgl w.params "__builtins__" = some (.ref bm)∧bm≠builtinsNs∧h.get? bm=some ob∧ob.cls=.type "module"∧ob.dict=some builtinsNs∧ob.data=.plain
 st:∃ o,h.get? cStatics=some o∧staticOf h "thirdparty.any" = none
theorem boot_super:bootBuiltins "super" = some (.type "super"):=by decide +kernel
theorem ne_cls {v:Value} {s:String} (e:v=.type s):v≠.none:=by rw [e]; nofun
section
variable {w:World} {h:Heap} {os:OsState}
theorem Env2.at_ (E:Env2 w h) {a:Addr} {o:Params→Obj} (e:∀ P,(hK P).lookup a=some (o P)):h.get? a=some (o w.params):=E.kin _ _ (e _)
theorem Env2.tab (E:Env2 w h) {a:Addr} {o:Params→Obj} (e:∀ P,(hT P).lookup a=some (o P)):h.get? a=some (o w.params):=E.tin _ _ (e _)
theorem Env2.glob (E:Env2 w h) {x:Str} {v:Value} (e:mgl w.params x=some v):(gl w h os).Glob x v:=by
 obtain ⟨mg,h1,h2⟩:=E.mg
 exact ⟨mg,_,h1,E.at_ hk3,ne_cls (s:="dict") rfl,(h2 x).trans e⟩
theorem Env2.blt (E:Env2 w h) {x:Str} {v:Value} (e:mgl w.params x=none) (hx:x≠"__name__") (hb:bootBuiltins x=some v):(gl w h os).Blt x v:=by
 obtain ⟨mg,h1,h2⟩:=E.mg
 obtain ⟨mb,ob,b1,b2,b3,b4⟩:=E.b
 exact ⟨mg,_,mb,ob,h1,E.at_ hk3,ne_cls (s:="dict") rfl,(h2 x).trans e,b1,b3,ne_cls b4,(b2 x hx).trans hb⟩
theorem mkFnAt {g:Gl} {f c:Addr} {fd:FuncData} {body:List Stmt} {oc:Obj} {vs:Array Value} {t:Tok} (h1:g.h₁.get? f=some (fnOb fd)) (bd:fd.body=.stmts body) (k:fd.scope.kind=.function) (gn:fd.scope.isGenerator=false) (co:fd.scope.isCoroutine=false)
  (gg:fd.globals=mainGlobals) (bl:fd.builtins=builtinsNs) (hc:fd.code=.ref c) (h2:g.h₁.get? c=some oc) (ec:oc.cls=.type "code") (ed:oc.data=.fields vs) (hv:vs[1]?=some (.str fd.qualname t)):FnAt g f fd body :=
 ⟨⟨_,h1,ne_cls (s:="function") rfl,rfl⟩,bd,k,gn,co,gg,bl,c,oc,vs,t,hc,h2,ne_cls ec,ed,hv⟩
theorem mkTab {g:Gl} {c Pt:Addr} {oc:Obj} {vs:Array Value} {file text:_} {tf tg tt:Tok} {flags:Int} {inF:Bool} (h2:g.h₁.get? c=some oc) (ec:oc.cls=.type "code") (ed:oc.data=.fields vs) (a1:vs[11]?=some (.ref Pt)) (a2:vs.getD 11 .none=.ref Pt) (a3:vs.getD 18 .none=.str file tf)
  (a4:vs.getD 7 .none=.int flags tg) (a5:vs.getD 9 .none=.bool inF) (a6:vs.getD 10 .none=.int text tt) (ne:c≠Pt) (h3:g.h₁.get? Pt=some (tabO #[])) (nc:Pt≠cStatics):CodeTab g c Pt :=
 ⟨⟨oc,vs,file,tf,flags,tg,inF,text,tt,h2,ec,ed,a1,a2,a3,a4,a5,a6,ne⟩,⟨#[],h3,trivial⟩,nc⟩
theorem mkDflt {g:Gl} {fd:FuncData} {ds:Array Value} {T n:Nat} {o:Obj} (h1:g.h₁.get? T=some o) (hd:fd.defaults=.ref T) (hc:o.cls=.type "tuple") (e:o.data=.seq ds n):DfltAt g fd ds:=⟨T,o,n,hd,h1,ne_cls hc,e⟩
theorem mkSup {g:Gl} {fd:FuncData} {c:Addr} {oc:Obj} {vs:Array Value} {file:Str} {tf:Tok} (hks:fd.scope.names.lookup ("super":Str)=some .globalImplicit) (hkc:fd.scope.names.lookup ("__class__":Str)=some .free)
  (hp:∃ ar,(fd.params.posonlyargs++fd.params.args).head?=some ar∧ar.arg = "self") (h2:g.h₁.get? c=some oc) (hc:fd.code=.ref c) (ec:oc.cls=.type "code") (ed:oc.data=.fields vs) (a:vs[2]?=some (.str file tf)) (b:((g.prog.main.file:Str) == file)=true)
  (ht:(g.prog.main.scope.names.lookup ("super":Str)).isSome=false) (bl:g.Blt "super" (.type "super")):SupOk g fd:=⟨hks,hkc,hp,⟨c,oc,vs,file,tf,hc,h2,ne_cls ec,ed,a,b⟩,ht,bl⟩
theorem mkCell {g:Gl} {fd:FuncData} {C cc:Addr} {o:Obj} (h1:g.h₁.get? cc=some o) (e:fd.closure.lookup ("__class__":Str)=some cc) (hc:o.cls=.type "cell") (d:o.data=.cell (some (.ref C))):ClsCell g fd C:=⟨cc,o,e,h1,ne_cls hc,d⟩
variable (E:Env2 w h)
include E
theorem gf9:Fn (gl w h os) 9 "_buffer" 211:=⟨E.glob (by kernel_rfl),210,(hS "binascii" 533),(mkFnAt (E.at_ hk211) rfl rfl rfl rfl rfl rfl rfl (E.at_ hk210) rfl rfl rfl)⟩
theorem gf10:Fn (gl w h os) 10 "_truth" 218:=⟨E.glob (by kernel_rfl),217,(hS "binascii" 533),(mkFnAt (E.at_ hk218) rfl rfl rfl rfl rfl rfl rfl (E.at_ hk217) rfl rfl rfl)⟩
theorem gf17:Fn (gl w h os) 17 "translate" 246:=⟨E.glob (by kernel_rfl),245,(hS "cpy313.fnmatch" 578),(mkFnAt (E.at_ hk246) rfl rfl rfl rfl rfl rfl rfl (E.at_ hk245) rfl rfl rfl)⟩
theorem gf20:Fn (gl w h os) 20 "escape" 258:=⟨E.glob (by kernel_rfl),257,(hS "re" 627),(mkFnAt (E.at_ hk258) rfl rfl rfl rfl rfl rfl rfl (E.at_ hk257) rfl rfl rfl)⟩
theorem gf22:Fn (gl w h os) 22 "_translate" 265:=⟨E.glob (by kernel_rfl),264,(hS "cpy313.fnmatch" 782),(mkFnAt (E.at_ hk265) rfl rfl rfl rfl rfl rfl rfl (E.at_ hk264) rfl rfl rfl)⟩
theorem gf23:Fn (gl w h os) 23 "_join_translated_parts" 272:=⟨E.glob (by kernel_rfl),271,(hS "cpy313.fnmatch" 782),(mkFnAt (E.at_ hk272) rfl rfl rfl rfl rfl rfl rfl (E.at_ hk271) rfl rfl rfl)⟩
theorem gf25:Fn (gl w h os) 25 "_law_alts" 279:=⟨E.glob (by kernel_rfl),278,(hS "law_in0222_01" 816),(mkFnAt (E.at_ hk279) rfl rfl rfl rfl rfl rfl rfl (E.at_ hk278) rfl rfl rfl)⟩
theorem gf26:Fn (gl w h os) 26 "_law_word" 286:=⟨E.glob (by kernel_rfl),285,(hS "law_in0222_01" 816),(mkFnAt (E.at_ hk286) rfl rfl rfl rfl rfl rfl rfl (E.at_ hk285) rfl rfl rfl)⟩
theorem gf27:Fn (gl w h os) 27 "_law_writing" 291:=⟨E.glob (by kernel_rfl),290,(hS "law_in0222_01" 816),(mkFnAt (E.at_ hk291) rfl rfl rfl rfl rfl rfl rfl (E.at_ hk290) rfl rfl rfl)⟩
theorem gf28:Fn (gl w h os) 28 "_law_words" 298:=⟨E.glob (by kernel_rfl),297,(hS "law_in0222_01" 816),(mkFnAt (E.at_ hk298) rfl rfl rfl rfl rfl rfl rfl (E.at_ hk297) rfl rfl rfl)⟩
theorem gf29:Fn (gl w h os) 29 "_law_pattern" 305:=⟨E.glob (by kernel_rfl),304,(hS "law_in0222_01" 816),(mkFnAt (E.at_ hk305) rfl rfl rfl rfl rfl rfl rfl (E.at_ hk304) rfl rfl rfl)⟩
theorem gf30:Fn (gl w h os) 30 "_law_sets" 312:=⟨E.glob (by kernel_rfl),311,(hS "law_in0222_01" 816),(mkFnAt (E.at_ hk312) rfl rfl rfl rfl rfl rfl rfl (E.at_ hk311) rfl rfl rfl)⟩
theorem gf31:Fn (gl w h os) 31 "_law_last" 319:=⟨E.glob (by kernel_rfl),318,(hS "law_in0222_01" 816),(mkFnAt (E.at_ hk319) rfl rfl rfl rfl rfl rfl rfl (E.at_ hk318) rfl rfl rfl)⟩
theorem gf32:Fn (gl w h os) 32 "_law_by_octets" 324:=⟨E.glob (by kernel_rfl),323,(hS "law_in0222_01" 816),(mkFnAt (E.at_ hk324) rfl rfl rfl rfl rfl rfl rfl (E.at_ hk323) rfl rfl rfl)⟩
theorem gf33:Fn (gl w h os) 33 "_law_by_pattern" 329:=⟨E.glob (by kernel_rfl),328,(hS "law_in0222_01" 816),(mkFnAt (E.at_ hk329) rfl rfl rfl rfl rfl rfl rfl (E.at_ hk328) rfl rfl rfl)⟩
theorem gf34:Fn (gl w h os) 34 "_law_place" 336:=⟨E.glob (by kernel_rfl),335,(hS "law_in0222_01" 816),(mkFnAt (E.at_ hk336) rfl rfl rfl rfl rfl rfl rfl (E.at_ hk335) rfl rfl rfl)⟩
theorem gf35:Fn (gl w h os) 35 "_law_rows" 341:=⟨E.glob (by kernel_rfl),340,(hS "law_in0222_01" 816),(mkFnAt (E.at_ hk341) rfl rfl rfl rfl rfl rfl rfl (E.at_ hk340) rfl rfl rfl)⟩
theorem gf36:Fn (gl w h os) 36 "_law_folded" 348:=⟨E.glob (by kernel_rfl),347,(hS "law_in0222_01" 816),(mkFnAt (E.at_ hk348) rfl rfl rfl rfl rfl rfl rfl (E.at_ hk347) rfl rfl rfl)⟩
theorem gf37:Fn (gl w h os) 37 "law" 353:=⟨E.glob (by kernel_rfl),352,(hS "law_in0222_01" 816),(mkFnAt (E.at_ hk353) rfl rfl rfl rfl rfl rfl rfl (E.at_ hk352) rfl rfl rfl)⟩
theorem mvf_init:MFn (gl w h os) (hK w.params) 116 6 0 "__init__" "_ValueFormatter.__init__" 57:=⟨by kernel_rfl,by kernel_rfl,56,(hS "cpy313.email.header" 289),(mkFnAt (E.at_ hk57) rfl rfl rfl rfl rfl rfl rfl (E.at_ hk56) rfl rfl rfl),⟨52,mkTab (E.at_ hk56) rfl rfl rfl rfl rfl rfl rfl rfl (by decide) (E.tab hk52) (by decide)⟩⟩
theorem mvf_str:MFn (gl w h os) (hK w.params) 116 6 1 "_str" "_ValueFormatter._str" 64:=⟨by kernel_rfl,by kernel_rfl,63,(hS "cpy313.email.header" 289),(mkFnAt (E.at_ hk64) rfl rfl rfl rfl rfl rfl rfl (E.at_ hk63) rfl rfl rfl),⟨59,mkTab (E.at_ hk63) rfl rfl rfl rfl rfl rfl rfl rfl (by decide) (E.tab hk59) (by decide)⟩⟩
theorem mvf_newline:MFn (gl w h os) (hK w.params) 116 6 3 "newline" "_ValueFormatter.newline" 78:=⟨by kernel_rfl,by kernel_rfl,77,(hS "cpy313.email.header" 289),(mkFnAt (E.at_ hk78) rfl rfl rfl rfl rfl rfl rfl (E.at_ hk77) rfl rfl rfl),⟨73,mkTab (E.at_ hk77) rfl rfl rfl rfl rfl rfl rfl rfl (by decide) (E.tab hk73) (by decide)⟩⟩
theorem mvf_feed:MFn (gl w h os) (hK w.params) 116 6 5 "feed" "_ValueFormatter.feed" 92:=⟨by kernel_rfl,by kernel_rfl,91,(hS "cpy313.email.header" 289),(mkFnAt (E.at_ hk92) rfl rfl rfl rfl rfl rfl rfl (E.at_ hk91) rfl rfl rfl),⟨87,mkTab (E.at_ hk91) rfl rfl rfl rfl rfl rfl rfl rfl (by decide) (E.tab hk87) (by decide)⟩⟩
theorem mvf_ascii_split:MFn (gl w h os) (hK w.params) 116 6 7 "_ascii_split" "_ValueFormatter._ascii_split" 106:=⟨by kernel_rfl,by kernel_rfl,105,(hS "cpy313.email.header" 289),(mkFnAt (E.at_ hk106) rfl rfl rfl rfl rfl rfl rfl (E.at_ hk105) rfl rfl rfl),⟨101,mkTab (E.at_ hk105) rfl rfl rfl rfl rfl rfl rfl rfl (by decide) (E.tab hk101) (by decide)⟩⟩
theorem mvf_append_chunk:MFn (gl w h os) (hK w.params) 116 6 8 "_append_chunk" "_ValueFormatter._append_chunk" 113:=⟨by kernel_rfl,by kernel_rfl,112,(hS "cpy313.email.header" 289),(mkFnAt (E.at_ hk113) rfl rfl rfl rfl rfl rfl rfl (E.at_ hk112) rfl rfl rfl),⟨108,mkTab (E.at_ hk112) rfl rfl rfl rfl rfl rfl rfl rfl (by decide) (E.tab hk108) (by decide)⟩⟩
theorem mac_init:MFnSD (gl w h os) (hK w.params) 200 7 0 "__init__" "_Accumulator.__init__" 137 #[(.int 0 449)]:=⟨by kernel_rfl,by kernel_rfl,136,(hS "cpy313.email.header" 289),130,124,129,(mkFnAt (E.at_ hk137) rfl rfl rfl rfl rfl rfl rfl (E.at_ hk136) rfl rfl rfl),mkDflt (E.at_ hk129) rfl rfl rfl,mkSup (by kernel_rfl) (by kernel_rfl) ⟨_,rfl,rfl⟩ (E.at_ hk136) rfl rfl rfl rfl (by kernel_rfl) (by kernel_rfl) (E.blt (by kernel_rfl) (by decide) boot_super),mkCell (E.at_ hk124) rfl rfl rfl⟩
theorem mac_push:MFn (gl w h os) (hK w.params) 200 7 1 "push" "_Accumulator.push" 144:=⟨by kernel_rfl,by kernel_rfl,143,(hS "cpy313.email.header" 289),(mkFnAt (E.at_ hk144) rfl rfl rfl rfl rfl rfl rfl (E.at_ hk143) rfl rfl rfl),⟨139,mkTab (E.at_ hk143) rfl rfl rfl rfl rfl rfl rfl rfl (by decide) (E.tab hk139) (by decide)⟩⟩
theorem mac_pop_from:MFnD (gl w h os) (hK w.params) 200 7 2 "pop_from" "_Accumulator.pop_from" 152 #[(.int 0 468)]:=⟨by kernel_rfl,by kernel_rfl,151,(hS "cpy313.email.header" 289),145,(mkFnAt (E.at_ hk152) rfl rfl rfl rfl rfl rfl rfl (E.at_ hk151) rfl rfl rfl),mkDflt (E.at_ hk145) rfl rfl rfl⟩
theorem mac_pop:MFnS (gl w h os) (hK w.params) 200 7 3 "pop" "_Accumulator.pop" 160:=⟨by kernel_rfl,by kernel_rfl,159,(hS "cpy313.email.header" 289),153,124,(mkFnAt (E.at_ hk160) rfl rfl rfl rfl rfl rfl rfl (E.at_ hk159) rfl rfl rfl),mkSup (by kernel_rfl) (by kernel_rfl) ⟨_,rfl,rfl⟩ (E.at_ hk159) rfl rfl rfl rfl (by kernel_rfl) (by kernel_rfl) (E.blt (by kernel_rfl) (by decide) boot_super),mkCell (E.at_ hk124) rfl rfl rfl⟩
theorem mac_len:MFn (gl w h os) (hK w.params) 200 7 4 "__len__" "_Accumulator.__len__" 167:=⟨by kernel_rfl,by kernel_rfl,166,(hS "cpy313.email.header" 289),(mkFnAt (E.at_ hk167) rfl rfl rfl rfl rfl rfl rfl (E.at_ hk166) rfl rfl rfl),⟨162,mkTab (E.at_ hk166) rfl rfl rfl rfl rfl rfl rfl rfl (by decide) (E.tab hk162) (by decide)⟩⟩
theorem mac_str:MFn (gl w h os) (hK w.params) 200 7 5 "__str__" "_Accumulator.__str__" 174:=⟨by kernel_rfl,by kernel_rfl,173,(hS "cpy313.email.header" 289),(mkFnAt (E.at_ hk174) rfl rfl rfl rfl rfl rfl rfl (E.at_ hk173) rfl rfl rfl),⟨169,mkTab (E.at_ hk173) rfl rfl rfl rfl rfl rfl rfl rfl (by decide) (E.tab hk169) (by decide)⟩⟩
theorem mac_reset:MFnD (gl w h os) (hK w.params) 200 7 6 "reset" "_Accumulator.reset" 182 #[.none]:=⟨by kernel_rfl,by kernel_rfl,181,(hS "cpy313.email.header" 289),175,(mkFnAt (E.at_ hk182) rfl rfl rfl rfl rfl rfl rfl (E.at_ hk181) rfl rfl rfl),mkDflt (E.at_ hk175) rfl rfl rfl⟩
theorem mac_is_onlyws:MFn (gl w h os) (hK w.params) 200 7 7 "is_onlyws" "_Accumulator.is_onlyws" 189:=⟨by kernel_rfl,by kernel_rfl,188,(hS "cpy313.email.header" 289),(mkFnAt (E.at_ hk189) rfl rfl rfl rfl rfl rfl rfl (E.at_ hk188) rfl rfl rfl),⟨184,mkTab (E.at_ hk188) rfl rfl rfl rfl rfl rfl rfl rfl (by decide) (E.tab hk184) (by decide)⟩⟩
theorem mac_part_count:MFnS (gl w h os) (hK w.params) 200 7 8 "part_count" "_Accumulator.part_count" 197:=⟨by kernel_rfl,by kernel_rfl,196,(hS "cpy313.email.header" 289),190,124,(mkFnAt (E.at_ hk197) rfl rfl rfl rfl rfl rfl rfl (E.at_ hk196) rfl rfl rfl),mkSup (by kernel_rfl) (by kernel_rfl) ⟨_,rfl,rfl⟩ (E.at_ hk196) rfl rfl rfl rfl (by kernel_rfl) (by kernel_rfl) (E.blt (by kernel_rfl) (by decide) boot_super),mkCell (E.at_ hk124) rfl rfl rfl⟩
theorem bmok:BmOk (gl w h os):=by
 obtain ⟨mg,h1,h2⟩:=E.mg
 obtain ⟨bm,ob,a,b,c,d,e,f⟩:=E.bm
 exact ⟨mg,_,bm,ob,h1,E.at_ hk3,ne_cls (s:="dict") rfl,(h2 _).trans a,b,c,d,e,f⟩
theorem stok:StOk (gl w h os):=⟨E.st⟩
theorem fgok:Fg (gl w h os) (hK w.params):=⟨E.kin,fun a o e=>by
 have key:∀ p∈hK w.params,p.2.cls≠.none:=by
  have:((hK w.params).all fun p=>p.2.cls != .none)=true:=by kernel_rfl
  intro p hp
  have:=List.all_eq_true.mp this p hp
  simpa using this
 obtain ⟨l1,l2,e1,-⟩:=List.lookup_eq_some_iff.mp e
 exact key (a,o) (by rw [e1]; simp)⟩
def accA1:AccA:=⟨137,144,152,160,167,174,182,189,197⟩
omit E in
theorem clsLst1:ClsLst (hK w.params) 200:={ dict:=⟨_,rfl,rfl⟩,gattr:=by kernel_rfl,ga:=by kernel_rfl,sa:=by kernel_rfl,mro:=⟨_,rfl,rfl⟩ }
theorem accOk1:AccOk (gl w h os) (hK w.params) 200 accA1 where
 fg:=fgok E
 ops:=⟨clsLst1,by kernel_rfl,by kernel_rfl,by kernel_rfl⟩
 typ:=by kernel_rfl
 st:=stok E
 bm:=bmok E
 init:=⟨_,mac_init E⟩
 push:=mac_push E
 popF:=⟨_,mac_pop_from E⟩
 pop:=mac_pop E
 len:=mac_len E
 str:=mac_str E
 reset:=mac_reset E
 ws:=mac_is_onlyws E
 count:=mac_part_count E
 size:=by kernel_rfl
 app:=⟨by kernel_rfl,by kernel_rfl⟩
 nobool:=by kernel_rfl
 makes:=by kernel_rfl
 calls:=by kernel_rfl
 sum:=E.blt (by kernel_rfl) (by decide) (by decide +kernel)
 len_:=E.blt (by kernel_rfl) (by decide) (by decide +kernel)
 str_:=E.blt (by kernel_rfl) (by decide) (by decide +kernel)
 empty:=⟨321,E.glob (by kernel_rfl)⟩
 pushGet:=by kernel_rfl
 pushTk:=by kernel_rfl
def vfA1:VfA:=⟨57,64,71,78,85,92,99,106,113⟩
theorem vfOk1:VfOk (gl w h os) (hK w.params) 116 200 vfA1 accA1 where
 acc:=accOk1 E
 cls:={ dict:=⟨_,rfl,rfl⟩,gattr:=by kernel_rfl,ga:=by kernel_rfl,sa:=by kernel_rfl,plain:=by kernel_rfl }
 init:=mvf_init E
 str_:=mvf_str E
 nl:=mvf_newline E
 feed:=mvf_feed E
 asc:=mvf_ascii_split E
 app:=mvf_append_chunk E
 no1:=by kernel_rfl
 no2:=by kernel_rfl
 no3:=by kernel_rfl
 no4:=by kernel_rfl
 no5:=by kernel_rfl
 no6:=by kernel_rfl
 no7:=by kernel_rfl
 makes:=by kernel_rfl
 calls:=by kernel_rfl
 gAcc:=E.glob (by kernel_rfl)
 gVf:=E.glob (by kernel_rfl)
 range_:=E.blt (by kernel_rfl) (by decide) (by decide +kernel)
 iter_:=E.blt (by kernel_rfl) (by decide) (by decide +kernel)
 zip_:=E.blt (by kernel_rfl) (by decide) (by decide +kernel)
theorem b64Ok1:B64Ok (gl w h os) 234:=⟨E.glob (by kernel_rfl),233,_,227,mkFnAt (E.at_ hk234) rfl rfl rfl rfl rfl rfl rfl (E.at_ hk233) rfl rfl rfl,mkDflt (E.at_ hk227) rfl rfl rfl⟩
theorem b2aOk1:B2aOk (gl w h os) 226 211 218 where
 glob:=E.glob (by kernel_rfl)
 at_:=⟨225,_,219,mkFnAt (E.at_ hk226) rfl rfl rfl rfl rfl rfl rfl (E.at_ hk225) rfl rfl rfl⟩
 buf:=gf9 E
 tru:=gf10 E
 tab:=⟨551,E.glob (by kernel_rfl)⟩
 ty:=E.blt (by kernel_rfl) (by decide) (by decide +kernel)
 by_:=E.blt (by kernel_rfl) (by decide) (by decide +kernel)
 bo:=E.blt (by kernel_rfl) (by decide) (by decide +kernel)
theorem pat1ok:Rx.PatOk (gl w h os) 43:=⟨42,_,_,_,_,_,_,_,_,E.at_ hk43,E.at_ hk42,ne_cls (s:="tuple") rfl,rfl,by kernel_rfl⟩
theorem pat2ok:Rx.Pat2Ok (gl w h os) 239:=⟨238,_,_,_,_,_,_,_,_,E.at_ hk239,E.at_ hk238,ne_cls (s:="tuple") rfl,rfl,by kernel_rfl⟩
def tabChk (c:Nat) (v:Option Value):Bool:=match v with
 | some (.str x _)=>decide (c∈specL) && decide (x.cps = #[92,c])
 | some _=>false
 | none=>decide (c∉specL)
omit E in
theorem spec_all (P:Params):((List.range 128).all fun c=>tabChk c (((esOf (hO248 P)).toList.find? fun e=>Value.isInt (c:Int) e.key).map (·.val)))=true:=by kernel_rfl
omit E in
theorem spec_keys (P:Params):((esOf (hO248 P)).toList.all fun e=>match e.key with | .int i _=>e.hash == hashInt i | _=>false)=true:=by kernel_rfl
theorem specTab1:SpecTab (gl w h os) 248:=by
 intro F σ s S
 refine ⟨by decide,fun i=>findBy (intKind P1 w).is (esOf (hO248 w.params)) i,⟨hO248 w.params,esOf (hO248 w.params),_,S.old.get_of_cls (E.at_ hk248) (ne_cls (s:="dict") rfl),⟨rfl,rfl,rfl⟩,rfl,fun e he=>?_,fun _=>rfl⟩,fun c hc=>?_⟩
 ·have:=List.all_eq_true.mp (spec_keys w.params) e (Array.mem_toList_iff.mpr he)
  revert this
  cases hk:e.key with
  | int i t =>
   intro q
   exact ⟨i,by show Value.isInt i (.int i t)=true; simp [Value.isInt],by have:=eq_of_beq q; exact this⟩
  | _=>intro q; cases q
 ·have:=List.all_eq_true.mp (spec_all w.params) c (List.mem_range.mpr hc)
  have e:findBy (intKind P1 w).is (esOf (hO248 w.params)) (c:Int)=((esOf (hO248 w.params)).toList.find? fun e=>Value.isInt (c:Int) e.key).map (·.val):=by
   unfold findBy
   rw [← Array.find?_toList]; rfl
  dsimp only
  rw [e]
  revert this
  cases ((esOf (hO248 w.params)).toList.find? fun e=>Value.isInt (c:Int) e.key).map (·.val) with
  | none=>intro q; rw [if_neg (of_decide_eq_true q)]
  | some v =>
   cases v with
   | str x t =>
    intro q
    unfold tabChk at q
    simp only [Bool.and_eq_true,decide_eq_true_eq] at q
    rw [if_pos q.1]
    refine ⟨t,?_⟩
    obtain ⟨cps⟩:=x
    have:cps = #[92,c]:=q.2
    subst this; rfl
   | _=>intro q; cases q
def lawA1:LawA:={ fAlts:=279,fPat:=305,fSets:=312,fTrl:=246,fT:=265,fJ:=272,fe:=258,d:=248,pat2:=239,fWords:=298,fWord:=286,fWriting:=291,f64:=234,fB2a:=226,fBuf:=211,fTru:=218,fFolded:=348,fRows:=341,fPlace:=336,fOct:=324,fByPat:=329,fLast:=319,cVf:=116,cAcc:=200,pat1:=43,K:=[],vf:=vfA1,acc:=accA1 }
theorem trOk1:TrOk (gl w h os) 265 258 248 239 where
 glob:=(gf22 E).glob
 at_:=⟨264,_,mkFnAt (E.at_ hk265) rfl rfl rfl rfl rfl rfl rfl (E.at_ hk264) rfl rfl rfl,260,mkTab (E.at_ hk264) rfl rfl rfl rfl rfl rfl rfl rfl (by decide) (E.tab hk260) (by decide)⟩
 esc:=⟨gf20 E,E.glob (by kernel_rfl),specTab1 E,E.blt (by kernel_rfl) (by decide) (by decide +kernel),E.blt (by kernel_rfl) (by decide) (by decide +kernel)⟩
 re:=E.glob (by kernel_rfl)
 pat2:=pat2ok E
 bm:=bmok E
 len:=E.blt (by kernel_rfl) (by decide) (by decide +kernel)
theorem lawOk1:LawOk (gl w h os) { lawA1 with K:=hK w.params } where
 alts:=gf25 E
 pat:=gf29 E
 sets:=gf30 E
 trl:=gf17 E
 tr:=trOk1 E
 join:=gf23 E
 obj:=E.blt (by kernel_rfl) (by decide) (by decide +kernel)
 words:=gf28 E
 word:=gf26 E
 writing:=gf27 E
 range:=E.blt (by kernel_rfl) (by decide) (by decide +kernel)
 rev:=E.blt (by kernel_rfl) (by decide) (by decide +kernel)
 bytes:=E.blt (by kernel_rfl) (by decide) (by decide +kernel)
 ord:=E.blt (by kernel_rfl) (by decide) (by decide +kernel)
 chr:=E.blt (by kernel_rfl) (by decide) (by decide +kernel)
 b64:=b64Ok1 E
 b2a:=b2aOk1 E
 sum:=E.blt (by kernel_rfl) (by decide) (by decide +kernel)
 len:=E.blt (by kernel_rfl) (by decide) (by decide +kernel)
 folded:=gf36 E
 vfok:=vfOk1 E
 re1:=E.glob (by kernel_rfl)
 pat1:=pat1ok E
 rows:=gf35 E
 place:=gf34 E
 oct:=gf32 E
 byPat:=gf33 E
 last:=gf31 E
end
end SH2
section SH3
open PySem.W PySem.Builtin PySem.Builtin.ObjectAttr
def YP1 (w:World) (h:Heap):Prop:=(hK w.params).In h∧(hT w.params).In h∧(∃ ob,h.get? builtinsNs=some ob∧ob.cls=.type "dict")∧∃ o,h.get? cStatics=some o∧staticOf h "thirdparty.any" = none
theorem lookup_app {α:Type} {a:Nat} {o:α}:∀ {l r:List (Nat × α)},l.lookup a=some o→(l++r).lookup a=some o
 | (b,x) :: l,r,e=>by
  rw [List.cons_append]
  simp only [List.lookup_cons] at e ⊢
  cases q:a == b with
  | true=>rw [q] at e; exact e
  | false=>rw [q] at e; exact lookup_app e
theorem lookup_app_r {α:Type} {a:Nat} {o:α}:∀ {l r:List (Nat × α)},l.lookup a=none→r.lookup a=some o→(l++r).lookup a=some o
 | [],r,_,e=>e
 | (b,x) :: l,r,n,e=>by
  rw [List.cons_append]
  simp only [List.lookup_cons] at n ⊢
  cases q:a == b with
  | true=>rw [q] at n; cases n
  | false=>rw [q] at n; exact lookup_app_r n e
theorem tabs_apart (P:Params):((hT P).all fun p=>((hK P).lookup p.1).isNone)=true:=by kernel_rfl
theorem yp1_of (w:World) (s:Shared) (e:Yf1 s=Ya1 w):YP1 w s.heap:=by
 obtain ⟨e1,e2⟩:=Prod.mk.inj e
 obtain ⟨e2,e3⟩:=Prod.mk.inj e2
 have hin:Frag.In (hK w.params++hT w.params) s.heap:=Frag.in_of (as:=hAs) (by show hAs=((hK w.params)++(hT w.params)).map (·.1); kernel_rfl) e1
 refine ⟨fun a o q=>hin a o (lookup_app q),fun a o q=>hin a o (lookup_app_r ?_ q),?_,?_⟩
 ·obtain ⟨l1,l2,q1,-⟩:=List.lookup_eq_some_iff.mp q
  have:=List.all_eq_true.mp (tabs_apart w.params) (a,o) (by rw [q1]; simp)
  simpa using this
 ·obtain ⟨ob,q1,q2⟩:=Option.map_eq_some_iff.mp e2
  exact ⟨ob,q1,q2⟩
 ·obtain ⟨o,q1,q2⟩:=Option.map_eq_some_iff.mp e3
  exact ⟨o,q1,q2⟩
theorem yp1_keeps (w:World) (h h':Heap) (Y:YP1 w h) (hk:∀ b o,h.get? b=some o→h'.get? b=some o):YP1 w h':=by
 obtain ⟨a,b,⟨ob,c1,c2⟩,o,d1,d2⟩:=Y
 refine ⟨fun x o q=>hk _ _ (a x o q),fun x o q=>hk _ _ (b x o q),⟨ob,hk _ _ c1,c2⟩,o,hk _ _ d1,?_⟩
 unfold staticOf at d2 ⊢
 rw [hk _ _ d1]
 rw [d1] at d2
 exact d2
theorem ints_of {w:World} {h:Heap}:∀ {xs:List WData} {vs:List Value},WShape.hasItems [] xs .int=true→WellAll w.params h vs xs→∃ is:List Int,xs.length=is.length∧VRs h [] (is.map PV.int) vs
 | [],vs,_,W=>by cases W; exact ⟨[],rfl,.nil⟩
 | d :: ds,vs,hs,W=>by
  cases W with
  | cons w1 w2 =>
   unfold WShape.hasItems at hs
   obtain ⟨h1,h2⟩:=Bool.and_eq_true_iff.mp hs
   obtain ⟨i,rfl⟩:=hasW_int h1
   obtain ⟨is,e,r⟩:=ints_of h2 w2
   cases w1
   exact ⟨i :: is,by simp [e],.cons (.int i _) r⟩
def posOf:Stmt→Pos
 | .FunctionDef _ _ _ _ _ _ _ _ _ p=>p
 | _=>⟨0,0,0,0⟩
def dLaw:DefRec:=⟨"law",fA 37,fB 37,fS 37,posOf (stAt 37)⟩
theorem env_of {q:Program} {loose:List Str} {R:WRecords} {XP:(Str→Option Value)→Heap→Prop} {w:World} {s₀:Shared} {mg mb:Str→Option Value} {h:Heap} (G:Ground q loose R XP w s₀ mg mb h) (Y:YP1 w h):Env2 w h∧∀ x,mg x=mgl w.params x:=by
 obtain ⟨a,b,⟨ob,c1,c2⟩,o,d1,d2⟩:=Y
 have T:=G.T
 have hmg:∀ x,mg x=mgl w.params x:=by
  obtain ⟨o',es,ep,e1,e2,e3,e4⟩:=T.g
  have e5:h.get? mainGlobals=some (hO3 w.params):=a 3 _ (hk3 _)
  rw [e1] at e5; cases e5
  intro x
  rw [← e4 x]
  have e6:es=esOf (hO3 w.params):=by unfold esOf; rw [e2]
  rw [e6]
  unfold mgl nsFind findBy
  rw [← Array.find?_toList]
 refine ⟨⟨a,b,⟨mg,T.g,hmg⟩,⟨mb,ob,T.b,T.builtins,c1,c2⟩,?_,⟨o,d1,d2⟩⟩,hmg⟩
 obtain ⟨bm,ob,q1,q2⟩:=T.bmain
 exact ⟨bm,ob,(hmg _).symm.trans q1,q2⟩
set_option maxHeartbeats 4000000 in
theorem walk1:WalkO V1 loose1 (fun _ _=>True) YP1 PySem.Challenge.rw_in0222_01.row.toRowW dLaw [] (fun f vs=>PySem.call f vs):=by
 intro w s₀ s₁ mg mb G Y a o pm cd doc dV kV ho hd hcd hD hmg hg args vals as hpre hlay hrd hwl hlo
 obtain ⟨E,hm⟩:=env_of G Y
 have ea:(Value.ref a)=.ref 353:=by
  have h1:mgl w.params "law" = some (.ref 353):=by kernel_rfl
  have h2:mg "law" = some (.ref a):=hmg
  rw [hm,h1] at h2
  exact (Option.some.inj h2).symm
 rw [ea]
 obtain ⟨hs,hc⟩:=pre_splitW hpre
 obtain ⟨d,r,rfl,hs1,hs2⟩:=hasAllW_cons hs
 have:=hasAllW_nil hs2
 subst this
 obtain ⟨xs,rfl,hit⟩:∃ xs,d=.list xs∧WShape.hasItems [] xs .int=true:=by
  cases d <;> first | (simp [WShape.has,WShape.arms] at hs1; done) | skip
  rename_i xs
  refine ⟨xs,rfl,?_⟩
  simp [WShape.has,WShape.arms] at hs1
  exact hs1
 cases hwl with
 | cons w1 w2 =>
  cases w2
  cases w1 with
  | @list L vs _ hl hw =>
   obtain ⟨is,hlen,hvs⟩:=ints_of hit hw
   have hl63:is.length≤63:=by
    have e:PySem.Challenge.rw_in0222_01.row.pre=.and (.not (.lt (.lit (.int 63)) (.len (.arg 0)))) (.lit (.bool true)):=rfl
    rw [show PySem.Challenge.rw_in0222_01.row.toRowW.pre=PySem.Challenge.rw_in0222_01.row.pre from rfl,e] at hc
    have hc2:(match Option.map WData.bool (some (decide ((63:Int) < (xs.length:Int)))) with | some (.bool b)=>!b | _=>false)=true:=by
     by_cases q:(63:Int) < (xs.length:Int)
     ·simp [WTm.holds,WTm.value,less?,Num.less?,q] at hc
     ·rw [decide_eq_false q]; rfl
    by_cases q:(63:Int) < (xs.length:Int)
    ·rw [decide_eq_true q] at hc2; cases hc2
    ·omega
   have VR1:VRs s₁.heap [] [.lst (is.map PV.int)] [.ref L]:=.cons (.lst List.not_mem_nil hl (by simpa using hvs)) .nil
   obtain ⟨c,pm,hfa⟩:=(gf37 (os:=s₁.os) E).at_
   have hrm:Rm callerA 14:=⟨rfl,by decide +kernel,by decide +kernel⟩
   refine start_fn (n:=13) (xs:=["script"]) (P:=fun p=>p=.raw (.bool true)) hrm G.T.nolimit (by rw [hg]; intro x hx; simp at hx) ?_ hfa (by decide) rfl (fun vs hv=>?_) (by rfl) (by rfl) VR1 (fun L=>?_) (fun a b s' own hb hr ho hos hbr=>?_)
   ·obtain ⟨o,e,_⟩:=E.st
    exact Heap.lt_size e
   ·match vs,hv with | [u],_=>rfl
   ·refine J.mono (law_body (σ:=⟨[],[]⟩) (P:=fun p _=>p=.raw (.bool true)) hrm (lawOk1 E) (by omega) rfl) ?_
    rintro fl σ' ⟨pre,_,h⟩
    exact h
   ·subst hb
    cases hr
    refine ⟨.inl ⟨_,.bool true,[],rfl,fun cls=>rfl,.bool true,?_,fun _=>⟨List.nodup_nil,fun x hx=>by cases hx⟩⟩,ho,hos,hbr⟩
    kernel_rfl
set_option maxHeartbeats 8000000 in
theorem final1:PySem.Challenge.rw_in0222_01.Holds:=by
 w_on
 o_law
 refine holds_open (q:=V1) (loose:=loose1) (Xt:=fun _=>true) (XP:=fun _ _=>True) (Yf:=Yf1) (Ya:=Ya1) (YP:=YP1) (d:=dLaw) (kwd:=[]) (N:=7000) left1 yp1_of yp1_keeps (fun _ _=>trivial) (fun _ _ _ h _=>h) (by rfl) (by rfl) (by rfl) (fun _ _=>recFacts_nil rfl) (by rfl) (by first | assumption | decide +kernel) (by decide +kernel) ⟨rfl,rfl,rfl,rfl,rfl,by decide +kernel⟩ ?hw walk1
 case hw=>w_witness2
end SH3
end Mine

theorem PySem.Challenge.cw_in0222_01_holds : PySem.Challenge.rw_in0222_01.Holds := by
  exact Mine.final1
