import PyProof.Rows.All
import Wide.All
import OpenK.AllK
import Wide.FinOn
import KE.BitLaws
import KE.KRevIter
import KE.KNest
import Open.Tree
import Lean
import PySem.Challenge.RW_uc0061_01
open PySem PySem.Spec PySem.Calls PyProof.Rows PySem.W PySem.SeqAt
set_option Elab.async false
set_option linter.all false
set_option maxRecDepth 100000
set_option genSizeOf false
set_option genInjectivity false
set_option bootstrap.genMatcherCode false
namespace Mine
section
set_option backward.match.sparseCases false
structure Clo where
 name:Str
 params:Arguments
 body:List Stmt
 scope:Scope
inductive AV where
 | none
 | bool (b:Bool)
 | int (i:Int)
 | str (s:Str)
 | tup (xs:List AV)
 | lst (xs:List AV)
 | inst (cls:Addr) (ns:List Str) (xs:List AV)
 | cst (v:Value)
 | edict
 | loc (k:Nat)
 | clo (i:Clo)
noncomputable abbrev GP:=Addr → Obj → Prop
noncomputable abbrev CP:=Clo → Obj → Addr → Obj → Prop
noncomputable def tupO (vs:List Value) (n:Nat):Obj:={ cls:=.type "tuple",data:=.seq vs.toArray n }
noncomputable def lstO (vs:List Value) (n:Nat):Obj:={ cls:=.type "list",data:=.seq vs.toArray n }
noncomputable def emptyO:Obj:={ cls:=.type "dict",data:=.dict #[] }
noncomputable def nsO (o:Obj) (m:Str → Option Value):Prop:=∃ es ep,o.data = .dict es ep ∧ StrKeys es ∧ UniqKeys es ∧ ∀ name,nsFind es name = m name
noncomputable def fld (ns:List Str) (us:List Value) (y:Str):Option Value:=(ns.zip us).lookup y
mutual
inductive TV (G:GP):AV → Value → Prop where
 | none:TV G .none .none
 | bool (b):TV G (.bool b) (.bool b)
 | int (i t):TV G (.int i) (.int i t)
 | str (x t):TV G (.str x) (.str x t)
 | cst (v):TV G (.cst v) v
 | edict {a}:G a emptyO → (a == sysModules) = false → TV G .edict (.ref a)
 | tup {xs vs a n}:G a (tupO vs n) → TVs G xs vs → TV G (.tup xs) (.ref a)
 | lst {xs vs a n}:G a (lstO vs n) → TVs G xs vs → TV G (.lst xs) (.ref a)
 | inst {cls ns xs vs a d o od m}:G a o → o.cls = .ref cls → (∀ c,o.data ≠ .cls c) → o.dict = some d → d ≠ a → G d od → nsO od m → (∀ y,m y = fld ns vs y) → TVs G xs vs → TV G (.inst cls ns xs) (.ref a)
inductive TVs (G:GP):List AV → List Value → Prop where
 | nil:TVs G [] []
 | cons {x v xs vs}:TV G x v → TVs G xs vs → TVs G (x :: xs) (v :: vs)
end
theorem TV.mono {G G':GP} (hG:∀ a o,G a o → G' a o) {x v} (t:TV G x v):TV G' x v :=
 TV.rec (motive_1:=fun x v _ => TV G' x v) (motive_2:=fun xs vs _ => TVs G' xs vs) .none .bool .int .str .cst (fun h e => .edict (hG _ _ h) e) (fun h _ s => .tup (hG _ _ h) s) (fun h _ s => .lst (hG _ _ h) s)
  (fun h1 h2 h3 h4 h5 h6 h7 h8 _ s => .inst (hG _ _ h1) h2 h3 h4 h5 (hG _ _ h6) h7 h8 s) .nil (fun _ _ a b => .cons a b) t
@[elab_as_elim] theorem TVs.ind {G:GP} {P:List AV → List Value → Prop} {xs vs} (t:TVs G xs vs) (nil:P [] []) (cons:∀ x v xs vs,TV G x v → TVs G xs vs → P xs vs → P (x :: xs) (v :: vs)):P xs vs :=
 TVs.rec (motive_1:=fun _ _ _ => True) (motive_2:=fun xs vs _ => P xs vs) trivial (fun _ => trivial) (fun _ _ => trivial) (fun _ _ => trivial) (fun _ => trivial) (fun _ _ => trivial) (fun _ _ _ => trivial) (fun _ _ _ => trivial)
  (fun _ _ _ _ _ _ _ _ _ _ => trivial) nil (fun a b _ c => cons _ _ _ _ a b c) t
theorem TVs.mono {G G':GP} (hG:∀ a o,G a o → G' a o) {xs vs} (t:TVs G xs vs):TVs G' xs vs:=t.ind .nil fun _ _ _ _ a _ b => .cons (a.mono hG) b
theorem bindS {α β:Type} {x:Option α} {f:α → Option β} {b:β} (h:x.bind f = some b):∃ a,x = some a ∧ f a = some b:=Option.bind_eq_some_iff.mp h
theorem mapS {α β:Type} {x:Option α} {f:α → β} {b:β} (h:x.map f = some b):∃ a,x = some a ∧ f a = b:=Option.map_eq_some_iff.mp h
theorem noO {α:Type} {x:Option α} {a:α} {P:Prop} (q:x = Option.none) (e:x = some a):P:=nomatch q.symm.trans e
theorem noI {α:Type} {x:Option α} {P:Prop} (q:x = Option.none) (e:x.isSome = true):P:=by subst q; exact nomatch e
theorem nI {α:Type} {x:Option α} (h:¬x.isSome = true):x = Option.none:=by cases x <;> first | rfl | exact absurd rfl h
theorem isSome_of {h h':Heap} {b:Addr} (g:∀ o,h.get? b = some o → h'.get? b = some o) (e:(h.get? b).isSome = true):(h'.get? b).isSome = true:=by
 obtain ⟨o,q⟩:=Option.isSome_iff_exists.mp e
 rw [g o q]; rfl
theorem none_of {h h':Heap} {b:Addr} (g:∀ b o,h.get? b = some o → h'.get? b = some o) (e:h'.get? b = Option.none):h.get? b = Option.none:=nI fun q => noI e (isSome_of (g b) q)
theorem noS {α:Type} {x:α} {P:Prop} (h:(Option.none:Option α) = some x):P:=nomatch h
theorem ifS {α:Type} {p:Prop} {_:Decidable p} {a b:α} (h:(if p then some a else Option.none) = some b):p ∧ a = b:=by
 by_cases q:p
 ·rw [if_pos q] at h; exact ⟨q,Option.some.inj h⟩
 ·rw [if_neg q] at h; exact nomatch h
theorem ifN {α:Type} {p:Prop} {_:Decidable p} {a b:α} (h:(if p then Option.none else some a) = some b):¬p ∧ a = b:=by
 by_cases q:p
 ·rw [if_pos q] at h; exact nomatch h
 ·rw [if_neg q] at h; exact ⟨q,Option.some.inj h⟩
theorem ifT {α:Type} {p:Prop} {_:Decidable p} {x:Option α} {b:α} (h:(if p then x else Option.none) = some b):p ∧ x = some b:=by
 by_cases q:p
 ·rw [if_pos q] at h; exact ⟨q,h⟩
 ·rw [if_neg q] at h; exact noS h
theorem ifF {α:Type} {p:Prop} {_:Decidable p} {x:Option α} {b:α} (h:(if p then Option.none else x) = some b):¬p ∧ x = some b:=by
 by_cases q:p
 ·rw [if_pos q] at h; exact noS h
 ·rw [if_neg q] at h; exact ⟨q,h⟩
theorem ifP {α:Type} {p:Prop} {_:Decidable p} {x y z:α} (h:p) (e:(if p then x else y) = z):x = z:=(if_pos h).symm.trans e
theorem ifQ {α:Type} {p:Prop} {_:Decidable p} {x y z:α} (h:¬p) (e:(if p then x else y) = z):y = z:=(if_neg h).symm.trans e
theorem bindE {α β:Type} {P:Prop} {x:Option α} {f:α → Option β} {b:β} (h:x.bind f = some b) (k:∀ a,x = some a → f a = some b → P):P:=(bindS h).elim fun a h => k a h.1 h.2
theorem mapE {α β:Type} {P:Prop} {x:Option α} {f:α → β} {b:β} (h:x.map f = some b) (k:∀ a,x = some a → f a = b → P):P:=(mapS h).elim fun a h => k a h.1 h.2
theorem and2 {a b:Bool} (h:(a && b) = true):a = true ∧ b = true:=Bool.and_eq_true_iff.mp h
theorem not1 {a:Bool} (h:(!a) = true):a = false:=by cases a <;> first | rfl | exact nomatch h
noncomputable def AV.isV (G:GP) (v:Value):AV → Prop
 | .none => v = .none
 | .bool b => v = .bool b
 | .int i => ∃ t,v = .int i t
 | .str x => ∃ t,v = .str x t
 | .cst w => v = w
 | .edict => ∃ a,v = .ref a ∧ G a emptyO ∧ (a == sysModules) = false
 | .tup xs => ∃ a vs n,v = .ref a ∧ G a (tupO vs n) ∧ TVs G xs vs
 | .lst xs => ∃ a vs n,v = .ref a ∧ G a (lstO vs n) ∧ TVs G xs vs
 | .inst cls ns xs => ∃ a vs d o od m,v = .ref a ∧ G a o ∧ o.cls = .ref cls ∧ (∀ c,o.data ≠ .cls c) ∧ o.dict = some d ∧ d ≠ a ∧ G d od ∧ nsO od m ∧ (∀ y,m y = fld ns vs y) ∧ TVs G xs vs
 | _ => False
theorem TV.inv {G:GP} {x:AV} {v:Value} (t:TV G x v):x.isV G v:=by
 cases t with
 | none => exact rfl
 | bool => exact rfl
 | int _ t => exact ⟨t,rfl⟩
 | str _ t => exact ⟨t,rfl⟩
 | cst => exact rfl
 | edict h e => exact ⟨_,rfl,h,e⟩
 | tup h e => exact ⟨_,_,_,rfl,h,e⟩
 | lst h e => exact ⟨_,_,_,rfl,h,e⟩
 | inst a b c d e f g h i => exact ⟨_,_,_,_,_,_,rfl,a,b,c,d,e,f,g,h,i⟩
@[elab_as_elim] theorem TV.intE {G:GP} {i:Int} {P:Value → Prop} {v:Value} (t:TV G (.int i) v) (h:∀ t,P (.int i t)):P v:=Exists.elim t.inv fun _ e => e ▸ h _
@[elab_as_elim] theorem TV.strE {G:GP} {i:Str} {P:Value → Prop} {v:Value} (t:TV G (.str i) v) (h:∀ t,P (.str i t)):P v:=Exists.elim t.inv fun _ e => e ▸ h _
@[elab_as_elim] theorem TV.boolE {G:GP} {i:Bool} {P:Value → Prop} {v:Value} (t:TV G (.bool i) v) (h:P (.bool i)):P v:=have e:v = .bool i:=t.inv; e ▸ h
@[elab_as_elim] theorem TV.noneE {G:GP} {P:Value → Prop} {v:Value} (t:TV G .none v) (h:P .none):P v:=have e:v = .none:=t.inv; e ▸ h
@[elab_as_elim] theorem TV.cstE {G:GP} {i:Value} {P:Value → Prop} {v:Value} (t:TV G (.cst i) v) (h:P i):P v:=have e:v = i:=t.inv; e ▸ h
@[elab_as_elim] theorem TV.tupE {G:GP} {xs:List AV} {P:Value → Prop} {v:Value} (t:TV G (.tup xs) v) (h:∀ a vs n,G a (tupO vs n) → TVs G xs vs → P (.ref a)):P v:=have ⟨a,vs,n,e,g,s⟩:=t.inv; e ▸ h a vs n g s
@[elab_as_elim] theorem TV.lstE {G:GP} {xs:List AV} {P:Value → Prop} {v:Value} (t:TV G (.lst xs) v) (h:∀ a vs n,G a (lstO vs n) → TVs G xs vs → P (.ref a)):P v:=have ⟨a,vs,n,e,g,s⟩:=t.inv; e ▸ h a vs n g s
theorem TVs.nilI {G:GP} {vs:List Value} (t:TVs G [] vs):vs = []:=by cases t; rfl
theorem TVs.consI {G:GP} {x:AV} {xs:List AV} {vs:List Value} (t:TVs G (x :: xs) vs):∃ u us,vs = u :: us ∧ TV G x u ∧ TVs G xs us:=by cases t with | cons a b => exact ⟨_,_,rfl,a,b⟩
theorem TVs.length {G:GP} {xs vs} (t:TVs G xs vs):xs.length = vs.length:=t.ind rfl fun _ _ _ _ _ _ => congrArg Nat.succ
theorem TVs.get' {G:GP} {xs vs} (t:TVs G xs vs):∀ (i:Nat) x,xs[i]? = some x → ∃ v,vs[i]? = some v ∧ TV G x v :=
 t.ind (fun _ _ e => nomatch e) fun _ _ _ _ a _ ih i x e => by
  cases i with
  | zero => exact ⟨_,rfl,Option.some.inj e ▸ a⟩
  | succ i => exact ih i x e
theorem TVs.get {G:GP} {xs vs} (t:TVs G xs vs) {i:Nat} {x} (e:xs[i]? = some x):∃ v,vs[i]? = some v ∧ TV G x v:=t.get' i x e
theorem TVs.append {G:GP} {xs vs ys us} (t:TVs G xs vs) (s:TVs G ys us):TVs G (xs ++ ys) (vs ++ us):=t.ind s fun _ _ _ _ a _ b => .cons a b
theorem TVs.one {G:GP} {x v} (h:TV G x v):TVs G [x] [v]:=.cons h .nil
theorem TVs.set' {G:GP} {xs vs x v} (t:TVs G xs vs) (h:TV G x v):∀ (i:Nat),TVs G (xs.set i x) (vs.set i v) :=
 t.ind (fun _ => .nil) fun _ _ _ _ a b ih i => by
  cases i with
  | zero => exact .cons h b
  | succ i => exact .cons a (ih i)
theorem TVs.set {G:GP} {xs vs} (t:TVs G xs vs) (i:Nat) {x v} (h:TV G x v):TVs G (xs.set i x) (vs.set i v):=t.set' h i
theorem TVs.take {G:GP} {xs vs} (t:TVs G xs vs):∀ (i:Nat),TVs G (xs.take i) (vs.take i) :=
 t.ind (fun i => by simp; exact .nil) fun _ _ _ _ a b ih i => by
  cases i with
  | zero => exact .nil
  | succ i => exact .cons a (ih i)
theorem TVs.drop {G:GP} {xs vs} (t:TVs G xs vs):∀ (i:Nat),TVs G (xs.drop i) (vs.drop i) :=
 t.ind (fun i => by simp; exact .nil) fun _ _ _ _ a b ih i => by
  cases i with
  | zero => exact .cons a b
  | succ i => exact ih i
theorem TVs.reverse {G:GP} {xs vs} (t:TVs G xs vs):TVs G xs.reverse vs.reverse:=t.ind .nil fun _ _ _ _ a _ ih => by
 rw [List.reverse_cons,List.reverse_cons]
 exact ih.append (TVs.one a)
structure Tb where
 c:Addr
 P:Addr
 l:Int
 k:Int
 q:Str
structure Wd where
 prog:Program
 w:World
 h₀:Heap
 mg:Str → Option Value
 mb:Str → Option Value
 tbs:List Tb
 g:h₀.Ns mainGlobals mg
 b:h₀.Ns builtinsNs mb
 lim:h₀.NoLimit
 tbo:∀ t ∈ tbs,h₀.get? t.P = Option.none
noncomputable def Wd.tP (W:Wd):List Addr:=W.tbs.map (·.P)
noncomputable def TbOk (h₀:Heap) (pr:List Addr) (h:Heap) (t:Tb):Prop :=
 (h₀.get? t.c).isSome = true ∧ ((h.IsCode t.c t.P #[] ∧ h.TableAt t.c t.P #[]) ∨ ∃ c',c' ∈ pr ∧ h.IsCode t.c t.P #[rawInt t.l,rawInt t.k,.ref c'] ∧ h.TableAt t.c t.P #[rawInt t.l,rawInt t.k,.ref c'] ∧ h.CodeRec (.ref c') t.q)
theorem get_eq {h h':Heap} {b:Addr} (e:(h.get? b).isSome = true) (g:∀ o,h.get? b = some o → h'.get? b = some o):h'.get? b = h.get? b:=by
 obtain ⟨o,q⟩:=Option.isSome_iff_exists.mp e
 exact (g o q).trans q.symm
noncomputable def ICp (x y:Option Obj) (c P:Addr) (ps:Array Value):Prop :=
 ∃ o vs file tf flags tg inF text tt op,x = some o ∧ o.data = .fields vs ∧ vs.getD 11 .none = .ref P ∧ vs.getD 18 .none = .str file tf ∧
  vs.getD 7 .none = .int flags tg ∧ vs.getD 9 .none = .bool inF ∧ vs.getD 10 .none = .int text tt ∧ y = some op ∧ op.data = .fields ps ∧
  TriplesOk ps.toList ∧ c ≠ P
theorem isCode_at {h h':Heap} {c P ps} (x:h.IsCode c P ps) (y:h.TableAt c P ps) (hc:∀ o,h.get? c = some o → h'.get? c = some o) (hP:∀ o,h.get? P = some o → h'.get? P = some o):h'.IsCode c P ps:=by
 have e:ICp (h.get? c) (h.get? P) c P ps:=x
 show ICp (h'.get? c) (h'.get? P) c P ps
 obtain ⟨⟨o,_,q,_⟩,q'⟩:=y
 rw [q] at e
 rw [q'] at e
 rw [hc _ q,hP _ q']
 exact e
theorem tableAt_at {h h':Heap} {c P ps} (x:h.TableAt c P ps) (hc:∀ o,h.get? c = some o → h'.get? c = some o) (hP:∀ o,h.get? P = some o → h'.get? P = some o):h'.TableAt c P ps :=
 let ⟨⟨o,vs,a,r⟩,t⟩:=x; ⟨⟨o,vs,hc _ a,r⟩,hP _ t⟩
theorem codeRec_at {h h':Heap} {c q} (x:h.CodeRec (.ref c) q) (hc:∀ o,h.get? c = some o → h'.get? c = some o):h'.CodeRec (.ref c) q:=by
 obtain ⟨c',o,vs,t,e,g,r⟩:=x
 cases e
 exact ⟨c,o,vs,t,rfl,hc _ g,r⟩
structure Base (W:Wd) (ext:List Addr) (h:Heap):Prop where
 sub:∀ b o,W.h₀.get? b = some o → h.get? b = some o
 dis:∀ a ∈ ext,W.h₀.get? a = Option.none ∧ (h.get? a).isSome = true ∧ a ∉ W.tP
 inv:∃ pr,(∀ a ∈ ext,a ∉ pr) ∧ (∀ a ∈ pr,a ∉ W.tP ∧ (h.get? a).isSome = true) ∧ ∀ t ∈ W.tbs,TbOk W.h₀ pr h t
theorem mem_tP {W:Wd} {t:Tb} (ht:t ∈ W.tbs):t.P ∈ W.tP:=List.mem_map_of_mem ht
theorem TbOk.at {h₀ h h':Heap} {pr pr':List Addr} {t:Tb} (x:TbOk h₀ pr h t) (kc:∀ o,h.get? t.c = some o → h'.get? t.c = some o) (kP:∀ o,h.get? t.P = some o → h'.get? t.P = some o) (kp:∀ c ∈ pr,c ∈ pr' ∧ ∀ o,h.get? c = some o → h'.get? c = some o):TbOk h₀ pr' h' t :=
 ⟨x.1,x.2.imp (fun y => ⟨isCode_at y.1 y.2 kc kP,tableAt_at y.2 kc kP⟩) fun ⟨c',m,y⟩ => ⟨c',(kp c' m).1,isCode_at y.1 y.2.1 kc kP,tableAt_at y.2.1 kc kP,codeRec_at y.2.2 (kp c' m).2⟩⟩
theorem TbOk.some {h₀ h:Heap} {pr:List Addr} {t:Tb} (x:TbOk h₀ pr h t):(h.get? t.P).isSome = true:=by
 rcases x.2 with y | ⟨_,_,_,y,_⟩
 ·rw [y.2.2]; rfl
 ·rw [y.2]; rfl
theorem Base.none {W:Wd} {ext:List Addr} {h:Heap} (B:Base W ext h) {a:Addr} (q:h.get? a = Option.none):W.h₀.get? a = Option.none ∧ a ∉ W.tP:=by
 refine ⟨nI fun e => ?_,fun hm => ?_⟩
 ·exact noI q (isSome_of (B.sub a) e)
 ·obtain ⟨t,ht,rfl⟩:=List.mem_map.mp hm
  obtain ⟨pr,_,_,p3⟩:=B.inv
  exact noI q (p3 t ht).some
theorem Base.kc {W:Wd} {ext D:List Addr} {h h':Heap} (B:Base W ext h) (hD:∀ a ∈ D,a ∈ ext) (g:∀ b o,b ∉ D → h.get? b = some o → h'.get? b = some o) {pr pr':List Addr} {t:Tb} (ht:t ∈ W.tbs) (x:TbOk W.h₀ pr h t) (hp:∀ c ∈ pr,c ∈ pr' ∧ c ∉ D):TbOk W.h₀ pr' h' t :=
 x.at (fun o => g t.c o fun q => noI (B.dis _ (hD _ q)).1 x.1) (fun o => g t.P o fun q => (B.dis _ (hD _ q)).2.2 (mem_tP ht)) fun c m => ⟨(hp c m).1,fun o => g c o (hp c m).2⟩
theorem Base.step {W:Wd} {ext ext':List Addr} {h h':Heap} (B:Base W ext h) (hk:∀ b o,b ∉ ext → h.get? b = some o → h'.get? b = some o) (hs:∀ b,(h.get? b).isSome = true → (h'.get? b).isSome = true)
  (he:∀ a ∈ ext',a ∈ ext ∨ (h.get? a = Option.none ∧ (h'.get? a).isSome = true)):Base W ext' h':=by
 obtain ⟨pr,p1,p2,p3⟩:=B.inv
 refine ⟨fun b o e => hk b o (fun hb => noO (B.dis b hb).1 e) (B.sub b o e),fun a ha => ?_,pr,fun a ha hp => ?_,fun a ha => ⟨(p2 a ha).1,hs a (p2 a ha).2⟩,fun t ht => B.kc (fun _ q => q) hk ht (p3 t ht) fun c m => ⟨m,fun q => p1 c q m⟩⟩
 ·rcases he a ha with q | ⟨q1,q2⟩
  ·exact ⟨(B.dis a q).1,hs a (B.dis a q).2.1,(B.dis a q).2.2⟩
  ·exact ⟨(B.none q1).1,q2,(B.none q1).2⟩
 ·rcases he a ha with q | ⟨q1,_⟩
  ·exact p1 a q hp
  ·exact noI q1 (p2 a hp).2
theorem Base.drop {W:Wd} {ext ext' D:List Addr} {h h':Heap} (B:Base W ext h) (hs:∀ a ∈ ext',a ∈ ext) (hD:∀ a ∈ D,a ∈ ext) (hDn:∀ a ∈ D,a ∉ ext') (g:∀ b o,b ∉ D → h.get? b = some o → h'.get? b = some o):Base W ext' h':=by
 obtain ⟨pr,p1,p2,p3⟩:=B.inv
 exact ⟨fun b o e => g b o (fun q => noO (B.dis b (hD b q)).1 e) (B.sub b o e),fun a ha => ⟨(B.dis a (hs a ha)).1,isSome_of (g a · fun q => hDn a q ha) (B.dis a (hs a ha)).2.1,(B.dis a (hs a ha)).2.2⟩,
  pr,fun a ha => p1 a (hs a ha),fun a ha => ⟨(p2 a ha).1,isSome_of (g a · fun q => p1 a (hD a q) ha) (p2 a ha).2⟩,fun t ht => B.kc hD g ht (p3 t ht) fun c m => ⟨m,fun q => p1 c (hD c q) m⟩⟩
theorem Base.less {W:Wd} {ext ext':List Addr} {h:Heap} (B:Base W ext h) (hs:∀ a ∈ ext',a ∈ ext):Base W ext' h :=
 B.step (h':=h) (fun _ _ _ e => e) (fun _ e => e) fun a ha => .inl (hs a ha)
noncomputable def Gh (W:Wd) (h:Heap) (av:List Addr):GP:=fun a o => h.get? a = some o ∧ a ∉ av ∧ a ∉ W.tP
noncomputable def Kp (W:Wd) (as:List Addr) (h h':Heap):Prop:=(∀ b o,b ∉ as → b ∉ W.tP → h.get? b = some o → h'.get? b = some o) ∧ ∀ b,(h.get? b).isSome = true → (h'.get? b).isSome = true
theorem Kp.refl {W:Wd} {as h}:Kp W as h h:=⟨fun _ _ _ _ e => e,fun _ e => e⟩
theorem Kp.trans {W:Wd} {as as' h h₁ h₂} (x:Kp W as h h₁) (y:Kp W as' h₁ h₂) (hs:∀ a ∈ as',a ∈ as ∨ h.get? a = Option.none):Kp W as h h₂ :=
 ⟨fun b o h1 h2 e => y.1 b o (fun hm => (hs b hm).elim h1 fun q => noO q e) h2 (x.1 b o h1 h2 e),fun b e => y.2 b (x.2 b e)⟩
theorem Kp.more {W:Wd} {as as' h h'} (x:Kp W as h h') (hs:∀ a ∈ as,a ∈ as' ∨ h.get? a = Option.none):Kp W as' h h' :=
 ⟨fun b o h1 h2 e => x.1 b o (fun hm => (hs b hm).elim h1 fun q => noO q e) h2 e,x.2⟩
theorem Kp.grow {W:Wd} {h h'} (x:∀ b o,h.get? b = some o → h'.get? b = some o) (as):Kp W as h h' :=
 ⟨fun b o _ _ e => x b o e,fun b e => isSome_of (x b) e⟩
theorem Gh.kp {W:Wd} {h h':Heap} {av av' as:List Addr} (k:Kp W as h h') (hs:∀ a ∈ as,a ∈ av ∨ h.get? a = Option.none) (hn:∀ a ∈ av',a ∈ av ∨ h.get? a = Option.none) (a:Addr) (o:Obj) (x:Gh W h av a o):Gh W h' av' a o :=
 ⟨k.1 a o (fun hm => (hs a hm).elim x.2.1 fun q => noO q x.1) x.2.2 x.1,fun hm => (hn a hm).elim x.2.1 fun q => noO q x.1,x.2.2⟩
theorem TV.kp {W:Wd} {h h':Heap} {av av' as:List Addr} {x v} (t:TV (Gh W h av) x v) (k:Kp W as h h') (hs:∀ a ∈ as,a ∈ av ∨ h.get? a = Option.none) (hn:∀ a ∈ av',a ∈ av ∨ h.get? a = Option.none):TV (Gh W h' av') x v :=
 t.mono (Gh.kp k hs hn)
theorem TVs.kp {W:Wd} {h h':Heap} {av av' as:List Addr} {x v} (t:TVs (Gh W h av) x v) (k:Kp W as h h') (hs:∀ a ∈ as,a ∈ av ∨ h.get? a = Option.none) (hn:∀ a ∈ av',a ∈ av ∨ h.get? a = Option.none):TVs (Gh W h' av') x v :=
 t.mono (Gh.kp k hs hn)
structure Cx where
 env:Env
 own:List Addr
 d:Nat
 isclo:CP
noncomputable abbrev VS:=List (Option AV)
inductive AO where
 | list (xs:List AV)
 | frz (xs:List AV)
 | inst (cls:Addr) (ns:List Str) (xs:List AV)
 | ifrz (cls:Addr) (ns:List Str) (xs:List AV)
noncomputable abbrev OB:=List AO
noncomputable abbrev Own:=Addr × List Addr × Bool
noncomputable abbrev AS:=List Own
noncomputable def liveOf (p:Own):List Addr:=if p.2.2 = true then p.1 :: p.2.1 else []
noncomputable def live (as:AS):List Addr:=as.flatMap liveOf
noncomputable def Cx.av (c:Cx) (hid:List Addr) (as:AS):List Addr:=c.own ++ hid ++ live as
noncomputable def getV (vs:VS) (i:Nat):Option AV:=(vs[i]?).join
noncomputable def VV (C:CP) (G:GP) (as:AS):AV → Value → Prop
 | .loc k,v => ∃ a b,v = .ref a ∧ as[k]? = some (a,b)
 | .clo i,v => ∃ f o c oc,v = .ref f ∧ G f o ∧ G c oc ∧ C i o c oc
 | x,v => TV G x v
inductive VVs (C:CP) (G:GP) (as:AS):List AV → List Value → Prop where
 | nil:VVs C G as [] []
 | cons {x v xs vs}:VV C G as x v → VVs C G as xs vs → VVs C G as (x :: xs) (v :: vs)
theorem VV.of {C} {G:GP} {as:AS} {x v} (t:TV G x v):VV C G as x v:=by
 cases x <;> first | exact t | exact t.inv.elim
inductive VVi (C:CP) (G:GP) (as:AS):AV → Value → Prop where
 | loc {k a b}:as[k]? = some (a,b) → VVi C G as (.loc k) (.ref a)
 | clo {i f o c oc}:G f o → G c oc → C i o c oc → VVi C G as (.clo i) (.ref f)
 | of {x v}:TV G x v → VVi C G as x v
theorem VV.i {C} {G:GP} {as:AS} {x v} (t:VV C G as x v):VVi C G as x v:=by
 cases x <;> first | exact .of t | (obtain ⟨_,_,rfl,e⟩:=t; exact .loc e) | (obtain ⟨_,_,_,_,rfl,e,e',e''⟩:=t; exact .clo e e' e'')
theorem VV.ind {C} {G:GP} {as:AS} {P:AV → Value → Prop} {x v} (t:VV C G as x v) (hl:∀ (k:Nat) a b,as[k]? = some (a,b) → P (.loc k) (.ref a)) (hc:∀ i f o c oc,G f o → G c oc → C i o c oc → P (.clo i) (.ref f)) (ht:∀ x v,TV G x v → P x v):P x v :=
 VVi.rec (fun e => hl _ _ _ e) (fun a b c => hc _ _ _ _ _ a b c) (fun t => ht _ _ t) t.i
theorem VV.imp {C C':CP} {G G':GP} {as as':AS} {x v} (t:VV C G as x v) (hl:∀ (k:Nat) a b,as[k]? = some (a,b) → ∃ b',as'[k]? = some (a,b')) (hc:∀ i f o c oc,G f o → G c oc → C i o c oc → G' f o ∧ G' c oc ∧ C' i o c oc) (g:∀ a o,G a o → G' a o):VV C' G' as' x v :=
 t.ind (fun k a b e => (hl k a b e).elim fun b' e' => ⟨a,b',rfl,e'⟩) (fun i f o c oc x y z => ⟨f,o,c,oc,rfl,(hc i f o c oc x y z).1,(hc i f o c oc x y z).2.1,(hc i f o c oc x y z).2.2⟩) fun _ _ t => .of (t.mono g)
noncomputable def AV.tree:AV → Bool
 | .loc _ | .clo _ => false
 | _ => true
noncomputable def trees (xs:List AV):Bool:=xs.all (·.tree)
theorem VV.tree {C} {G:GP} {as:AS} {x v} (t:VV C G as x v) (h:x.tree = true):TV G x v:=by
 cases x <;> first | exact t | cases h
theorem VVs.tvs {C} {G:GP} {as:AS} {xs vs} (t:VVs C G as xs vs):trees xs = true → TVs G xs vs:=by
 induction t with
 | nil => exact fun _ => .nil
 | cons a _ ih =>
  unfold trees
  rw [List.all_cons,Bool.and_eq_true]
  exact fun h => .cons (a.tree h.1) (ih h.2)
theorem VVs.of {C} {G:GP} {as:AS} {xs vs} (t:TVs G xs vs):VVs C G as xs vs:=t.ind .nil fun _ _ _ _ a _ b => .cons (.of a) b
theorem VVs.imp {C C':CP} {G G':GP} {as as':AS} {xs vs} (t:VVs C G as xs vs):(∀ x v,x ∈ xs → VV C G as x v → VV C' G' as' x v) → VVs C' G' as' xs vs:=by
 induction t with
 | nil => exact fun _ => .nil
 | cons a _ ih => exact fun f => .cons (f _ _ (List.mem_cons_self ..) a) (ih fun x v m => f x v (List.mem_cons_of_mem _ m))
theorem VVs.length {C} {G:GP} {as:AS} {xs vs} (t:VVs C G as xs vs):xs.length = vs.length:=by
 induction t with
 | nil => rfl
 | cons _ _ ih => exact congrArg Nat.succ ih
noncomputable def SlotIs (env:Env) (h:Heap) (m:Str → Option Value) (x:Str) (k:NameKind) (v:Value):Prop :=
 match k with
 | .local => m x = some v
 | .cell | .free => ∃ cc,env.cells.lookup x = some cc ∧ h.IsCell cc (some v)
 | _ => False
noncomputable def VarRel (W:Wd) (c:Cx) (hid:List Addr) (vs:VS) (as:AS) (h:Heap):Prop :=
 (∀ x cc,c.env.cells.lookup x = some cc → ∃ v,h.IsCell cc v) ∧ ∃ m,h.Ns c.env.locals m ∧ ∀ i x k av,c.env.scope.names[i]? = some (x,k) → getV vs i = some av → ∃ v,SlotIs c.env h m x k v ∧ VV c.isclo (Gh W h (c.av hid as)) as av v
noncomputable abbrev noC:CP:=fun _ _ _ _ => False
noncomputable def AOis (W:Wd) (av:List Addr) (as:AS) (h:Heap):AO → Own → Prop
 | .list xs,p => ∃ us n,p.2.2 = true ∧ h.get? p.1 = some (lstO us n) ∧ TVs (Gh W h av) xs us
 | .frz xs,p => p.2.2 = false ∧ TV (Gh W h av) (.lst xs) (.ref p.1)
 | .inst cls ns xs,p => ∃ us m,p.2.2 = true ∧ h.Inst p.1 cls m ∧ (∃ o d,h.get? p.1 = some o ∧ o.dict = some d ∧ d ∈ p.2.1) ∧ (∀ y,m y = fld ns us y) ∧ VVs noC (Gh W h av) as xs us
 | .ifrz cls ns xs,p => p.2.2 = false ∧ TV (Gh W h av) (.inst cls ns xs) (.ref p.1)
noncomputable def ObRel (W:Wd) (av:List Addr) (ob:OB) (as:AS) (h:Heap):Prop :=
 as.length = ob.length ∧ ∀ (i:Nat) (o:AO),ob[i]? = some o → ∃ p,as[i]? = some p ∧ AOis W av as h o p
structure Cx.Ok (c:Cx) (hid:List Addr):Prop where
 kind:c.env.scope.kind = .function
 glob:c.env.globals = mainGlobals
 blt:c.env.builtins = builtinsNs
 loc:c.env.locals ∈ c.own
 cells:∀ x cc,c.env.cells.lookup x = some cc → cc ∈ c.own ++ hid
 cinj:∀ x y cc,c.env.cells.lookup x = some cc → c.env.cells.lookup y = some cc → x = y
 names:(c.env.scope.names.map (·.1)).Nodup
structure Rel (W:Wd) (c:Cx) (hid:List Addr) (vs:VS) (ob:OB) (as:AS) (h:Heap):Prop where
 ok:c.Ok hid
 base:Base W (c.av hid as) h
 nodup:(c.av hid as).Nodup
 vars:VarRel W c hid vs as h
 objs:ObRel W (c.av hid as) ob as h
theorem mem_av_own {c:Cx} {hid:List Addr} {as:AS} {a:Addr} (h:a ∈ c.own):a ∈ c.av hid as:=List.mem_append_left _ (List.mem_append_left _ h)
theorem mem_av_hid {c:Cx} {hid:List Addr} {as:AS} {a:Addr} (h:a ∈ hid):a ∈ c.av hid as:=List.mem_append_left _ (List.mem_append_right _ h)
theorem mem_av_oh {c:Cx} {hid:List Addr} {as:AS} {a:Addr} (h:a ∈ c.own ++ hid):a ∈ c.av hid as:=List.mem_append_left _ h
theorem mem_av_live {c:Cx} {hid:List Addr} {as:AS} {a:Addr} (h:a ∈ live as):a ∈ c.av hid as:=List.mem_append_right _ h
theorem oh_not_live {c:Cx} {hid:List Addr} {as:AS} {a:Addr} (hn:(c.av hid as).Nodup) (h:a ∈ c.own ++ hid):a ∉ live as:=fun hm => (List.nodup_append.mp hn).2.2 a h a hm rfl
theorem own_not_hid {c:Cx} {hid:List Addr} {as:AS} {a:Addr} (hn:(c.av hid as).Nodup) (h:a ∈ c.own):a ∉ hid:=fun hm => (List.nodup_append.mp (List.nodup_append.mp hn).1).2.2 a h a hm rfl
theorem mem_live {as:AS} {a:Addr}:a ∈ live as ↔ ∃ p ∈ as,p.2.2 = true ∧ (a = p.1 ∨ a ∈ p.2.1):=by
 unfold live
 rw [List.mem_flatMap]
 constructor
 ·rintro ⟨⟨x,l,b⟩,hx,e⟩
  unfold liveOf at e
  cases b
  ·cases e
  ·exact ⟨_,hx,rfl,List.mem_cons.mp e⟩
 ·rintro ⟨⟨x,l,b⟩,hx,e,q⟩
  cases e
  exact ⟨_,hx,List.mem_cons.mpr q⟩
theorem mem_live_of {as:AS} {i:Nat} {p:Own} (e:as[i]? = some p) (hb:p.2.2 = true) {a:Addr} (ha:a = p.1 ∨ a ∈ p.2.1):a ∈ live as:=mem_live.mpr ⟨p,List.mem_of_getElem? e,hb,ha⟩
theorem live_append {as bs:AS}:live (as ++ bs) = live as ++ live bs:=List.flatMap_append ..
noncomputable def Ex (h:Heap) (as as':AS):Prop:=(∀ (i:Nat) (a:Addr) (b:List Addr × Bool),as[i]? = some (a,b) → ∃ b',as'[i]? = some (a,b')) ∧ ∀ a ∈ live as',a ∈ live as ∨ h.get? a = Option.none
theorem Ex.refl {h as}:Ex h as as:=⟨fun _ _ b e => ⟨b,e⟩,fun _ ha => .inl ha⟩
theorem Ex.trans {W:Wd} {l:List Addr} {h h₁ as as₁ as₂} (x:Ex h as as₁) (k:Kp W l h h₁) (y:Ex h₁ as₁ as₂):Ex h as as₂:=by
 refine ⟨fun i a b e => ?_,fun a ha => ?_⟩
 ·obtain ⟨b₁,e₁⟩:=x.1 i a b e
  exact y.1 i a b₁ e₁
 ·rcases y.2 a ha with q | q
  ·exact x.2 a q
  ·exact .inr (nI fun e => noI q (k.2 a e))
theorem Ex.live {h as as'} (x:Ex h as as'):∀ a ∈ Mine.live as',a ∈ Mine.live as ∨ h.get? a = Option.none:=x.2
theorem Ex.av {c:Cx} {hid:List Addr} {h as as'} (x:Ex h as as'):∀ a ∈ c.av hid as',a ∈ c.av hid as ∨ h.get? a = Option.none:=by
 intro a ha
 rcases List.mem_append.mp ha with q | q
 ·exact .inl (mem_av_oh q)
 ·exact (x.live a q).imp mem_av_live id
theorem Ex.app {h:Heap} {as new:AS} (hn:∀ a ∈ Mine.live new,h.get? a = Option.none):Ex h as (as ++ new):=by
 refine ⟨fun i a b e => ⟨b,?_⟩,fun a ha => ?_⟩
 ·obtain ⟨hl,_⟩:=List.getElem?_eq_some_iff.mp e
  rw [List.getElem?_append_left hl]; exact e
 ·rw [live_append] at ha
  exact (List.mem_append.mp ha).imp id (hn a)
theorem VV.kp {W:Wd} {c c':Cx} {hid hid':List Addr} {h h':Heap} {as as':AS} {l:List Addr} {x v} {C:CP} (t:VV C (Gh W h (c.av hid as)) as x v) (k:Kp W l h h') (hs:∀ a ∈ l,a ∈ c.av hid as ∨ h.get? a = Option.none) (ex:Ex h as as')
  (hc:∀ a ∈ c'.own ++ hid',a ∈ c.av hid as ∨ h.get? a = Option.none):VV C (Gh W h' (c'.av hid' as')) as' x v:=by
 have hn:∀ a ∈ c'.av hid' as',a ∈ c.av hid as ∨ h.get? a = Option.none:=fun a ha => by
  rcases List.mem_append.mp ha with q | q
  ·exact hc a q
  ·exact (ex.live a q).imp mem_av_live id
 have up:∀ a o,Gh W h (c.av hid as) a o → Gh W h' (c'.av hid' as') a o:=Gh.kp k hs hn
 exact VV.imp t ex.1 (fun i f o c oc x y z => ⟨up _ _ x,up _ _ y,z⟩) up
theorem VV.step {W:Wd} {c:Cx} {hid:List Addr} {h h':Heap} {as as':AS} {l:List Addr} {x v} {C:CP} (t:VV C (Gh W h (c.av hid as)) as x v) (k:Kp W l h h') (hs:∀ a ∈ l,a ∈ c.av hid as) (ex:Ex h as as'):VV C (Gh W h' (c.av hid as')) as' x v :=
 t.kp k (fun a ha => .inl (hs a ha)) ex fun _ ha => .inl (mem_av_oh ha)
theorem VVs.kp {W:Wd} {c c':Cx} {hid hid':List Addr} {h h':Heap} {as as':AS} {l:List Addr} {C:CP} (k:Kp W l h h') (hs:∀ a ∈ l,a ∈ c.av hid as ∨ h.get? a = Option.none) (ex:Ex h as as')
  (hc:∀ a ∈ c'.own ++ hid',a ∈ c.av hid as ∨ h.get? a = Option.none) {xs vs} (t:VVs C (Gh W h (c.av hid as)) as xs vs):VVs C (Gh W h' (c'.av hid' as')) as' xs vs:=t.imp fun _ _ _ a => a.kp k hs ex hc
theorem VVs.step {W:Wd} {c:Cx} {hid:List Addr} {C:CP} {h h':Heap} {as as':AS} {l:List Addr} (k:Kp W l h h') (hs:∀ a ∈ l,a ∈ c.av hid as) (ex:Ex h as as') {xs vs} (t:VVs C (Gh W h (c.av hid as)) as xs vs):VVs C (Gh W h' (c.av hid as')) as' xs vs :=
 VVs.kp k (fun a ha => .inl (hs a ha)) ex (fun _ ha => .inl (mem_av_oh ha)) t
theorem isCell_kp {h h':Heap} {cc v} (x:h.IsCell cc v) (k:∀ o,h.get? cc = some o → h'.get? cc = some o):h'.IsCell cc v:=let ⟨o,e,d⟩:=x; ⟨o,k o e,d⟩
theorem SlotIs.at {env:Env} {h h':Heap} {m:Str → Option Value} {x:Str} {k:NameKind} {v:Value} (g:∀ x cc,env.cells.lookup x = some cc → ∀ o,h.get? cc = some o → h'.get? cc = some o) (e:SlotIs env h m x k v):SlotIs env h' m x k v:=by
 unfold SlotIs at e ⊢
 cases k <;> first | exact e | (obtain ⟨cc,e,ic⟩:=e; exact ⟨cc,e,isCell_kp ic (g _ _ e)⟩)
theorem VarRel.at {W:Wd} {c:Cx} {hid hid':List Addr} {vs as as' h h'} (V:VarRel W c hid vs as h) (gc:∀ x cc,c.env.cells.lookup x = some cc → ∀ o,h.get? cc = some o → h'.get? cc = some o) (gl:∀ o,h.get? c.env.locals = some o → h'.get? c.env.locals = some o)
  (up:∀ x v,VV c.isclo (Gh W h (c.av hid as)) as x v → VV c.isclo (Gh W h' (c.av hid' as')) as' x v):VarRel W c hid' vs as' h':=by
 obtain ⟨hc,m,⟨o,es,ep,e,r⟩,hv⟩:=V
 exact ⟨fun x cc e => (hc x cc e).imp fun v ic => isCell_kp ic (gc x cc e),m,⟨o,es,ep,gl _ e,r⟩,fun i x kk av e1 e2 => (hv i x kk av e1 e2).imp fun v q => ⟨q.1.at gc,up _ _ q.2⟩⟩
theorem Rel.varsStep {W:Wd} {c:Cx} {hid:List Addr} {vs ob as as' h h'} (R:Rel W c hid vs ob as h) (k:Kp W (live as) h h') (ex:Ex h as as'):VarRel W c hid vs as' h':=by
 have own:∀ a ∈ c.own ++ hid,∀ o,h.get? a = some o → h'.get? a = some o:=fun a ha o e => k.1 a o (oh_not_live R.nodup ha) ((R.base.dis a (mem_av_oh ha)).2.2) e
 exact R.vars.at (fun x cc e => own cc (R.ok.cells _ _ e)) (own _ (List.mem_append_left _ R.ok.loc)) fun x v t => t.step k (fun a ha => mem_av_live ha) ex
theorem inst_at {h h':Heap} {a cls:Addr} {m} (x:h.Inst a cls m) (ka:∀ o,h.get? a = some o → h'.get? a = some o) (kd:∀ o d,h.get? a = some o → o.dict = some d → ∀ od,h.get? d = some od → h'.get? d = some od):h'.Inst a cls m:=by
 obtain ⟨o,e,c1,c2,r⟩:=x
 refine ⟨o,ka o e,c1,c2,r.imp id ?_⟩
 rintro ⟨d,ed,hne,hn⟩
 exact ⟨d,ed,hne,hn.at (kd o d e ed)⟩
theorem AOis.lift {W:Wd} {av av':List Addr} {as as':AS} {h h':Heap} {o:AO} {p:Own} (r:AOis W av as h o p) (up:∀ a o,Gh W h av a o → Gh W h' av' a o) (lv:p.2.2 = true → ∀ a,a = p.1 ∨ a ∈ p.2.1 → ∀ o,h.get? a = some o → h'.get? a = some o)
  (vv:∀ {xs us},VVs noC (Gh W h av) as xs us → VVs noC (Gh W h' av') as' xs us):AOis W av' as' h' o p:=by
 cases o with
 | list xs =>
  obtain ⟨us,n,hb,g,t⟩:=r
  exact ⟨us,n,hb,lv hb _ (.inl rfl) _ g,t.mono up⟩
 | frz xs => exact ⟨r.1,r.2.mono up⟩
 | inst cls ns xs =>
  obtain ⟨us,m,hb,I,⟨o₀,d₀,e₀,ed₀,hd₀⟩,r4,t⟩:=r
  refine ⟨us,m,hb,inst_at I (lv hb _ (.inl rfl)) (fun o d e ed od => ?_),⟨o₀,d₀,lv hb _ (.inl rfl) _ e₀,ed₀,hd₀⟩,r4,vv t⟩
  rw [e₀] at e
  cases e
  rw [ed₀] at ed
  cases ed
  exact lv hb _ (.inr hd₀) od
 | ifrz cls ns xs => exact ⟨r.1,r.2.mono up⟩
theorem ObRel.kp {W:Wd} {c c':Cx} {hid hid':List Addr} {ob as as' h h'} {l:List Addr} (R:ObRel W (c.av hid as) ob as h) (k:Kp W l h h') (hl:∀ a ∈ l,a ∈ c.av hid as ∨ h.get? a = Option.none) (hl2:∀ a ∈ live as,a ∉ l) (ht:∀ a ∈ live as,a ∉ W.tP) (ex:Ex h as as')
  (he:∀ (i:Nat) p,as[i]? = some p → as'[i]? = some p) (hc:∀ a ∈ c'.own ++ hid',a ∈ c.av hid as ∨ h.get? a = Option.none) :
  ∀ (i:Nat) (o:AO),ob[i]? = some o → ∃ p,as'[i]? = some p ∧ AOis W (c'.av hid' as') as' h' o p:=by
 intro i o e
 obtain ⟨p,ea,r⟩:=R.2 i o e
 refine ⟨p,he _ _ ea,?_⟩
 have hn:∀ a ∈ c'.av hid' as',a ∈ c.av hid as ∨ h.get? a = Option.none:=fun a ha => by
  rcases List.mem_append.mp ha with q | q
  ·exact hc a q
  ·exact (ex.live a q).imp mem_av_live id
 refine r.lift (Gh.kp k hl hn) (fun hb a ha o e' => ?_) (VVs.kp k hl ex hc)
 have hm:a ∈ live as:=mem_live_of ea hb ha
 exact k.1 _ _ (hl2 _ hm) (ht _ hm) e'
theorem Rel.grow {W:Wd} {c:Cx} {hid:List Addr} {vs ob as h h'} (R:Rel W c hid vs ob as h) (k:∀ b o,h.get? b = some o → h'.get? b = some o):Rel W c hid vs ob as h':=by
 have kp:Kp W [] h h':=Kp.grow k _
 refine ⟨R.ok,R.base.step (fun b o _ e => k b o e) kp.2 fun a ha => .inl ha,R.nodup,R.varsStep (Kp.grow k _) .refl,R.objs.1,?_⟩
 exact R.objs.kp kp (fun _ ha => nomatch ha) (fun _ _ ha => nomatch ha) (fun a ha => (R.base.dis a (mem_av_live ha)).2.2) .refl (fun _ _ e => e) fun _ ha => .inl (mem_av_oh ha)
noncomputable abbrev TE:=VS → OB → (AV → OB → Prop) → Prop
noncomputable def OkA (d:Nat) (A:Around):Prop:=A.handled = Option.none ∧ A.depth + d < recursionLimit ∧ A.units + 8 * (d + 20) < cLine
theorem OkA.u {d:Nat} {A:Around} (h:OkA d A):A.units + 128 ≤ cLine:=by have:=h.2.2; lia
noncomputable def E (W:Wd) (c:Cx) (e:Expr) (T:TE):Prop :=
 ∀ (A:Around) (hid:List Addr) (vs:VS) (ob:OB) (k:AV → OB → Prop) (s:Shared) (as:AS) (Q:Value → Shared → Prop),
  OkA c.d A → T vs ob k → Rel W c hid vs ob as s.heap →
  (∀ (v:Value) (h':Heap) (tk:Nat) (av:AV) (ob':OB) (as':AS),k av ob' → Rel W c hid vs ob' as' h' → VV c.isclo (Gh W h' (c.av hid as')) as' av v → Kp W (live as) s.heap h' → Ex s.heap as as' → Q v { s with heap:=h',toks:=tk }) →
  wpAny (model W.prog W.w) A (eval e c.env) Q (fun _ _ => False) s
variable {W:Wd} {c:Cx} {hid:List Addr}
theorem E.var {x:Str} {pos:Pos} (i:Nat) (kk:NameKind) (hi:c.env.scope.names[i]? = some (x,kk)) (hl:c.env.scope.names.lookup x = some kk) (hd:(x == ("__debug__" : Str)) = false) (hn:(x == ("__classdict__" : Str)) = false)
  (hk:kk = .local ∨ kk = .cell ∨ kk = .free):E W c (.Name x pos) (fun vs ob k => ∃ av,getV vs i = some av ∧ k av ob):=by
 intro A hid vs ob k s as Q hA ⟨av,hg,hk'⟩ R hQ
 obtain ⟨_,m,hm,hv⟩:=R.vars
 obtain ⟨v,hs,hvv⟩:=hv i x kk av hi hg
 have fin:Q v s:=hQ v s.heap s.toks av ob as hk' R hvv .refl .refl
 rcases hk with rfl | rfl | rfl
 ·exact wpAny_Name (wpAny_loadName_local R.ok.kind hl hm hs fin) hd
 ·obtain ⟨cc,e,ic⟩:=hs
  exact wpAny_Name (wpAny_loadName_cell R.ok.kind hl e ic fin) hd
 ·obtain ⟨cc,e,ic⟩:=hs
  exact wpAny_Name (wpAny_loadName_free R.ok.kind hl e ic fin hn) hd
theorem E.int {i:Int} {kk:Nat} {pos:Pos}:E W c (.Constant (.int i) kk pos) (fun _ ob k => k (.int i) ob):=fun _ _ _ _ _ _ _ _ _ hk R hQ =>
 wpAny_Constant_int (hQ _ _ _ _ _ _ hk R (.int ..) .refl .refl)
theorem E.str {x:Str} {kk:Nat} {pos:Pos}:E W c (.Constant (.str x) kk pos) (fun _ ob k => k (.str x) ob):=fun _ _ _ _ _ _ _ _ _ hk R hQ =>
 Constant_str (hQ _ _ _ _ _ _ hk R (.str ..) .refl .refl)
theorem E.bool {x:Bool} {kk:Nat} {pos:Pos}:E W c (.Constant (.bool x) kk pos) (fun _ ob k => k (.bool x) ob):=fun _ _ _ _ _ s _ _ _ hk R hQ =>
 wpAny_Constant_bool (hQ _ s.heap s.toks _ _ _ hk R (.bool ..) .refl .refl)
theorem E.none {kk:Nat} {pos:Pos}:E W c (.Constant .none kk pos) (fun _ ob k => k .none ob):=fun _ _ _ _ _ s _ _ _ hk R hQ =>
 wpAny_Constant_none (hQ _ s.heap s.toks _ _ _ hk R TV.none .refl .refl)
theorem E.glob {x:Str} {pos:Pos} {v:Value} (hx:c.env.scope.names.lookup x = some .globalImplicit) (hg:W.mg x = some v) (hd:(x == ("__debug__" : Str)) = false) :
  E W c (.Name x pos) (fun _ ob k => k (.cst v) ob):=fun A _ _ _ _ s _ _ _ hk R hQ =>
 Name_function_global R.ok.kind hx (loadGlobal_global (by rw [R.ok.glob]; exact W.g.keeps R.base.sub) hg (hQ v s.heap s.toks _ _ _ hk R (TV.cst v) .refl .refl)) hd
theorem E.blt {x:Str} {pos:Pos} {v:Value} (hx:c.env.scope.names.lookup x = some .globalImplicit) (hg:W.mg x = Option.none) (hb:W.mb x = some v) (hd:(x == ("__debug__" : Str)) = false) :
  E W c (.Name x pos) (fun _ ob k => k (.cst v) ob):=fun A _ _ _ _ s _ _ _ hk R hQ =>
 Name_function_global R.ok.kind hx (loadGlobal_builtin (by rw [R.ok.glob]; exact W.g.keeps R.base.sub) hg (by rw [R.ok.blt]; exact W.b.keeps R.base.sub) hb (hQ v s.heap s.toks _ _ _ hk R (TV.cst v) .refl .refl)) hd
theorem E.then {A:Around} {vs:VS} {ob':OB} {as as':AS} {s:Shared} {h':Heap} {tk:Nat} {e:Expr} {T:TE} {k:AV → OB → Prop} {Q:Value → Shared → Prop} (H:E W c e T) (hA:OkA c.d A)
  (ht:T vs ob' k) (R':Rel W c hid vs ob' as' h') (kp:Kp W (live as) s.heap h') (ex:Ex s.heap as as')
  (hQ:∀ (v:Value) (h'':Heap) (tk:Nat) (av:AV) (ob'':OB) (as'':AS),k av ob'' → Rel W c hid vs ob'' as'' h'' → VV c.isclo (Gh W h'' (c.av hid as'')) as'' av v → Kp W (live as') h' h'' → Ex h' as' as'' → Kp W (live as) s.heap h'' → Ex s.heap as as'' → Q v { s with heap:=h'',toks:=tk }) :
  wpAny (model W.prog W.w) A (eval e c.env) Q (fun _ _ => False) { s with heap:=h',toks:=tk } :=
 H A hid vs ob' k { s with heap:=h',toks:=tk } as' Q hA ht R' fun v h'' tk' av ob'' as'' hk R'' hv kp' ex' => hQ v h'' tk' av ob'' as'' hk R'' hv kp' ex' (kp.trans kp' ex.live) (ex.trans kp ex')
noncomputable abbrev BOp:=AV → AV → (AV → Prop) → Prop
noncomputable def BinOk (W:Wd) (op:Operator) (f:BOp):Prop :=
 ∀ (A:Around) (a b:AV) (va vb:Value) (k:AV → Prop) (s:Shared) (av:List Addr) (Q:Value → Shared → Prop),A.handled = Option.none → A.units + 128 ≤ cLine → f a b k → Base W av s.heap → TV (Gh W s.heap av) a va → TV (Gh W s.heap av) b vb →
  (∀ v h' tk r,k r → (∀ b o,s.heap.get? b = some o → h'.get? b = some o) → TV (Gh W h' av) r v → Q v { s with heap:=h',toks:=tk }) → wpAny (model W.prog W.w) A (binaryOp op va vb) Q (fun _ _ => False) s
theorem E.bin {op:Operator} {f:BOp} {l r:Expr} {pos:Pos} {Tl Tr:TE} (hop:BinOk W op f) (hl:E W c l Tl) (hr:E W c r Tr) :
  E W c (.BinOp l op r pos) (fun vs ob k => Tl vs ob fun a ob₁ => Tr vs ob₁ fun b ob₂ => a.tree = true ∧ b.tree = true ∧ f a b fun r => k r ob₂):=by
 intro A hid vs ob k s as Q hA ht R hQ
 refine wpAny_BinOp (hl A hid vs ob _ s as _ hA ht R fun va h₁ t₁ a ob₁ as₁ ht₁ R₁ hva kp₁ ex₁ => ?_)
 refine hr.then hA ht₁ R₁ kp₁ ex₁ fun vb h₂ t₂ b ob₂ as₂ ⟨ta,tb,hf⟩ R₂ hvb kp₂ ex₂ kp ex => ?_
 have hva':=(hva.step kp₂ (fun a ha => mem_av_live ha) ex₂).tree ta
 refine hop A a b va vb _ _ (c.av hid as₂) Q hA.1 hA.u hf R₂.base hva' (hvb.tree tb) fun v h₃ t₃ r hk g hv => ?_
 exact hQ v h₃ t₃ r ob₂ as₂ hk (R₂.grow g) (VV.of hv) (kp.trans (Kp.grow g []) fun _ ha => nomatch ha) ex
end
section
set_option backward.match.sparseCases false
variable {W:Wd} {c:Cx} {hid:List Addr}
noncomputable def setV (vs:VS) (i:Nat) (av:AV):VS:=vs.set i (some av)
theorem getV_setV {vs:VS} {i j:Nat} {av x:AV} (h:getV (setV vs i av) j = some x):(j = i ∧ x = av) ∨ (j ≠ i ∧ getV vs j = some x):=by
 unfold getV setV at h
 rw [List.getElem?_set] at h
 by_cases e:i = j
 ·subst e
  rw [if_pos rfl] at h
  by_cases hl:i < vs.length
  ·rw [if_pos hl] at h; left; exact ⟨rfl,(Option.some.inj h).symm⟩
  ·rw [if_neg hl] at h; cases h
 ·rw [if_neg e] at h; right; exact ⟨fun q => e q.symm,h⟩
noncomputable def Kw (W:Wd) (c:Cx) (as:AS) (h h':Heap):Prop:=Kp W (c.own ++ live as) h h'
theorem live_sub {c:Cx} {as:AS}:∀ a ∈ live as,a ∈ c.own ++ live as:=fun _ h => List.mem_append_right _ h
theorem Kp.kw {as:AS} {h h'} (k:Kp W (live as) h h'):Kw W c as h h':=k.more fun a ha => .inl (live_sub a ha)
theorem Kw.trans {as as':AS} {h h₁ h₂} (x:Kw W c as h h₁) (y:Kw W c as' h₁ h₂) (ex:Ex h as as'):Kw W c as h h₂ :=
 Kp.trans x y fun a ha => (List.mem_append.mp ha).elim (fun q => .inl (List.mem_append_left _ q)) fun q => (ex.live a q).imp (fun z => live_sub a z) id
theorem own_live_av {as:AS}:∀ a ∈ c.own ++ live as,a ∈ c.av hid as:=fun a ha => (List.mem_append.mp ha).elim mem_av_own mem_av_live
theorem sameBut_kp {a:Addr} {h h':Heap} (hs:Heap.SameBut a h h') (hi:(h'.get? a).isSome = true):Kp W [a] h h' :=
 ⟨fun b o hb _ e => (hs.2 b fun q => hb (q ▸ List.mem_singleton_self _)).trans e,fun b e => by
  by_cases q:b = a
  ·rw [q]; exact hi
  ·rw [hs.2 b q]; exact e⟩
theorem ns_isSome {h:Heap} {a m} (x:h.Ns a m):(h.get? a).isSome = true:=by obtain ⟨o,_,_,e,_⟩:=x; rw [e]; rfl
theorem cell_isSome {h:Heap} {a m} (x:h.IsCell a m):(h.get? a).isSome = true:=by obtain ⟨o,e,_⟩:=x; rw [e]; rfl
theorem ns_not_cell {h:Heap} {a m v} (x:h.Ns a m):¬ h.IsCell a v:=by
 rintro ⟨o,e,d⟩
 obtain ⟨o',_,_,e',d',_⟩:=x
 rw [e] at e'; cases e'; (first | exact noO d d' | exact noI d d' | (rw [d] at d'; cases d'))
theorem idx_inj {α β:Type} [BEq α]:∀ {l:List (α × β)},(l.map (·.1)).Nodup → ∀ {i j:Nat} {x:α} {k k':β},l[i]? = some (x,k) → l[j]? = some (x,k') → i = j
 | [],_,_,_,_,_,_,h,_ => by simp at h
 | p :: l,hn,i,j,x,k,k',hi,hj => by
  rw [List.map_cons,List.nodup_cons] at hn
  cases i with
  | zero =>
   cases j with
   | zero => rfl
   | succ j =>
    simp at hi hj
    subst hi
    exact absurd (List.mem_map.mpr ⟨_,List.mem_of_getElem? hj,rfl⟩) hn.1
  | succ i =>
   cases j with
   | zero =>
    simp at hi hj
    subst hj
    exact absurd (List.mem_map.mpr ⟨_,List.mem_of_getElem? hi,rfl⟩) hn.1
   | succ j =>
    simp at hi hj
    rw [idx_inj hn.2 hi hj]
theorem Rel.ownStep {vs:VS} {ob as h h'} (R:Rel W c hid vs ob as h) {a:Addr} (ha:a ∈ c.own) (k:∀ b o,b ≠ a → h.get? b = some o → h'.get? b = some o) (hi:(h'.get? a).isSome = true) :
  Base W (c.av hid as) h' ∧ ObRel W (c.av hid as) ob as h' ∧ Kp W [a] h h' ∧ ∀ av v,VV c.isclo (Gh W h (c.av hid as)) as av v → VV c.isclo (Gh W h' (c.av hid as)) as av v:=by
 have kp:Kp W [a] h h':=⟨fun b o hb _ e => k b o (fun q => hb (q ▸ List.mem_singleton_self _)) e,fun b e => by
  by_cases q:b = a
  ·rw [q]; exact hi
  ·cases z:h.get? b with
   | none => (first | exact noO z e | exact noI z e | (rw [z] at e; cases e))
   | some o => rw [k b o q z]; rfl⟩
 have hav:∀ b ∈ [a],b ∈ c.av hid as:=fun b hb => by rw [List.mem_singleton.mp hb]; exact mem_av_own ha
 refine ⟨R.base.step (fun b o hb e => k b o (fun q => hb (q ▸ mem_av_own ha)) e) kp.2 fun b hb => .inl hb,⟨R.objs.1,R.objs.kp kp (fun b hb => .inl (hav b hb)) (fun b hb q => ?_) (fun b hb => (R.base.dis b (mem_av_live hb)).2.2) .refl (fun _ _ e => e) fun _ ha => .inl (mem_av_oh ha)⟩,kp,fun av v t => t.step kp hav .refl⟩
 rw [List.mem_singleton.mp q] at hb
 exact oh_not_live R.nodup (List.mem_append_left _ ha) hb
theorem ns_uniq {h:Heap} {a:Addr} {m m':Str → Option Value} (x:h.Ns a m) (z:h.Ns a m') (y:Str):m y = m' y:=by
 obtain ⟨o,es,ep,a1,a2,_,a4⟩:=x
 obtain ⟨o',es',ep',b1,b2,_,b4⟩:=z
 obtain rfl:=Option.some.inj (a1.symm.trans b1)
 obtain ⟨rfl,rfl⟩:=Data.dict.inj (a2.symm.trans b2)
 exact (a4 y).symm.trans (b4 y)
theorem Rel.storeLocal {vs:VS} {ob as h h'} (R:Rel W c hid vs ob as h) {i:Nat} {x:Str} {av:AV} {v:Value} {m:Str → Option Value} (hi:c.env.scope.names[i]? = some (x,.local)) (hm:h.Ns c.env.locals m)
  (hm':h'.Ns c.env.locals fun y => if y = x then some v else m y) (hs:Heap.SameBut c.env.locals h h') (hv:VV c.isclo (Gh W h (c.av hid as)) as av v):Rel W c hid (setV vs i av) ob as h':=by
 obtain ⟨B,O,kp,up⟩:=R.ownStep R.ok.loc (fun b o hb e => (hs.2 b hb).trans e) (ns_isSome hm')
 obtain ⟨hc,m₀,hm₀,hv₀⟩:=R.vars
 refine ⟨R.ok,B,R.nodup,⟨fun y cc e => ?_,_,hm',fun j y k av' e1 e2 => ?_⟩,O⟩
 ·obtain ⟨v',ic⟩:=hc y cc e
  exact ⟨v',isCell_kp ic fun o e' => (hs.2 cc (fun q => ns_not_cell hm (q ▸ ic))).trans e'⟩
 ·rcases getV_setV e2 with ⟨rfl,rfl⟩ | ⟨hj,e3⟩
  ·rw [hi] at e1
   cases e1
   exact ⟨v,by show (if x = x then some v else m x) = some v; rw [if_pos rfl],up _ _ hv⟩
  ·obtain ⟨v',hs',hvv⟩:=hv₀ j y k av' e1 e3
   refine ⟨v',?_,up _ _ hvv⟩
   unfold SlotIs at hs' ⊢
   cases k <;> first
    | exact hs'
    | exact (if_neg fun q => hj (idx_inj R.ok.names (q ▸ e1) hi)).trans ((ns_uniq hm hm₀ y).trans hs')
    | exact hs'.elim fun cc z => ⟨cc,z.1,isCell_kp z.2 fun o e' => (hs.2 cc (fun q => ns_not_cell hm (q ▸ z.2))).trans e'⟩
theorem Rel.storeCell {vs:VS} {ob as h h'} (R:Rel W c hid vs ob as h) {i:Nat} {x:Str} {av:AV} {v:Value} {cc:Addr} (hi:c.env.scope.names[i]? = some (x,.cell)) (hcc:c.env.cells.lookup x = some cc) (ho:cc ∈ c.own)
  (hm':h'.IsCell cc (some v)) (hs:Heap.SameBut cc h h') (hv:VV c.isclo (Gh W h (c.av hid as)) as av v):Rel W c hid (setV vs i av) ob as h':=by
 obtain ⟨B,O,kp,up⟩:=R.ownStep ho (fun b o hb e => (hs.2 b hb).trans e) (cell_isSome hm')
 obtain ⟨hc,m₀,hm₀,hv₀⟩:=R.vars
 have hne:c.env.locals ≠ cc:=fun q => by
  obtain ⟨v₁,ic⟩:=hc x cc hcc
  exact ns_not_cell hm₀ (q ▸ ic)
 refine ⟨R.ok,B,R.nodup,⟨fun y cc' e => ?_,_,hm₀.sameBut hs hne,fun j y k av' e1 e2 => ?_⟩,O⟩
 ·by_cases q:cc' = cc
  ·exact ⟨_,q ▸ hm'⟩
  ·obtain ⟨v',ic⟩:=hc y cc' e
   exact ⟨v',isCell_kp ic fun o e' => (hs.2 cc' q).trans e'⟩
 ·rcases getV_setV e2 with ⟨rfl,rfl⟩ | ⟨hj,e3⟩
  ·rw [hi] at e1
   cases e1
   exact ⟨v,⟨cc,hcc,hm'⟩,up _ _ hv⟩
  ·obtain ⟨v',hs',hvv⟩:=hv₀ j y k av' e1 e3
   refine ⟨v',?_,up _ _ hvv⟩
   unfold SlotIs at hs' ⊢
   cases k <;> first
    | exact hs'
    | exact hs'.elim fun c₂ z => ⟨c₂,z.1,isCell_kp z.2 fun o e' => (hs.2 c₂ fun q => hj (idx_inj R.ok.names (R.ok.cinj _ _ _ (q ▸ z.1) hcc ▸ e1) hi)).trans e'⟩
noncomputable def St (W:Wd) (c:Cx) (x:Str) (i:Nat):Prop :=
 ∀ (A:Around) (hid:List Addr) (vs:VS) (ob:OB) (s:Shared) (as:AS) (Q:Unit → Shared → Prop) (av:AV) (v:Value),Rel W c hid vs ob as s.heap → VV c.isclo (Gh W s.heap (c.av hid as)) as av v →
  (∀ (h':Heap) (tk:Nat),Rel W c hid (setV vs i av) ob as h' → Kp W c.own s.heap h' → (∀ b o,b ∉ c.own → s.heap.get? b = some o → h'.get? b = some o) → Q () { s with heap:=h',toks:=tk }) →
  wpAny (model W.prog W.w) A (storeName c.env x v) Q (fun _ _ => False) s
theorem St.local {x:Str} (i:Nat) (hi:c.env.scope.names[i]? = some (x,.local)) (hl:c.env.scope.names.lookup x = some .local):St W c x i:=by
 intro A hid vs ob s as Q av v R hv hQ
 obtain ⟨_,m,hm,_⟩:=R.vars
 have hp:(c.env.scope.kind == .class || (c.env.scope.kind == .module && c.env.locals != c.env.globals)) = false:=by rw [R.ok.kind]; rfl
 refine wpAny_storeName_local hl hm (fun h' hn hs => ?_) hp
 refine hQ h' _ (R.storeLocal hi hm hn hs hv) ?_ fun b o hb e => (hs.2 b fun q => hb (q ▸ R.ok.loc)).trans e
 exact (sameBut_kp hs (ns_isSome hn)).more fun a ha => .inl (by rw [List.mem_singleton.mp ha]; exact R.ok.loc)
theorem St.cell {x:Str} (i:Nat) (hi:c.env.scope.names[i]? = some (x,.cell)) (hl:c.env.scope.names.lookup x = some .cell) (ho:∀ cc,c.env.cells.lookup x = some cc → cc ∈ c.own) (hs:(c.env.cells.lookup x).isSome = true):St W c x i:=by
 intro A hid vs ob s as Q av v R hv hQ
 obtain ⟨hc,m,hm,_⟩:=R.vars
 cases e:c.env.cells.lookup x with
 | none => (first | exact noO e hs | exact noI e hs | (rw [e] at hs; cases hs))
 | some cc =>
  obtain ⟨v₀,ic⟩:=hc x cc e
  refine wpAny_storeName_cell R.ok.kind hl e ic (fun h' hn hs => ?_)
  refine hQ h' _ (R.storeCell hi e (ho _ e) hn hs hv) ?_ fun b o hb e' => (hs.2 b fun q => hb (q ▸ ho _ e)).trans e'
  exact (sameBut_kp hs (cell_isSome hn)).more fun a ha => .inl (by rw [List.mem_singleton.mp ha]; exact ho _ e)
inductive AF where
 | next | brk | cont
 | ret (v:AV)
noncomputable def FlowIs (C:CP) (G:GP) (as:AS):AF → Flow → Prop
 | .next,f => f = .next
 | .brk,f => f = .brk
 | .cont,f => f = .cont
 | .ret av,f => ∃ v,f = .ret v ∧ VV C G as av v
noncomputable abbrev TS:=VS → OB → (AF → VS → OB → Prop) → Prop
noncomputable def Run (W:Wd) (c:Cx) (t:Sem Flow) (T:TS):Prop :=
 ∀ (A:Around) (hid:List Addr) (vs:VS) (ob:OB) (k:AF → VS → OB → Prop) (s:Shared) (as:AS) (Q:Flow → Shared → Prop),
  OkA c.d A → T vs ob k → Rel W c hid vs ob as s.heap →
  (∀ (f:Flow) (h':Heap) (tk:Nat) (fl:AF) (vs':VS) (ob':OB) (as':AS),k fl vs' ob' → Rel W c hid vs' ob' as' h' → FlowIs c.isclo (Gh W h' (c.av hid as')) as' fl f → Kw W c as s.heap h' → Ex s.heap as as' → Q f { s with heap:=h',toks:=tk }) →
  wpAny (model W.prog W.w) A t Q (fun _ _ => False) s
noncomputable abbrev S (W:Wd) (c:Cx) (st:Stmt) (T:TS):Prop:=Run W c (exec st c.env) T
noncomputable abbrev Ss (W:Wd) (c:Cx) (sts:List Stmt) (T:TS):Prop:=Run W c (execs sts c.env) T
theorem Ss.nil:Ss W c [] (fun vs ob k => k .next vs ob):=fun _ _ _ _ _ s as _ _ hk R hQ =>
 wpAny_execs_nil (hQ _ s.heap s.toks _ _ _ as hk R rfl (Kp.refl) .refl)
theorem Ss.cons {st:Stmt} {rest:List Stmt} {T T':TS} (h:S W c st T) (h':Ss W c rest T') :
  Ss W c (st :: rest) (fun vs ob k => T vs ob fun fl vs' ob' => match fl with | .next => T' vs' ob' k | f => k f vs' ob'):=by
 intro A hid vs ob k s as Q hA ht R hQ
 refine wpAny_execs_cons (h A hid vs ob _ s as _ hA ht R fun f h₁ t₁ fl vs₁ ob₁ as₁ hk R₁ hf kw ex => ?_)
 cases fl with
 | next =>
  cases hf
  refine h' A hid vs₁ ob₁ k { s with heap:=h₁,toks:=t₁ } as₁ Q hA hk R₁ fun f h₂ t₂ fl vs₂ ob₂ as₂ hk₂ R₂ hf₂ kw₂ ex₂ => ?_
  exact hQ f h₂ t₂ fl vs₂ ob₂ as₂ hk₂ R₂ hf₂ (kw.trans kw₂ ex) (ex.trans kw ex₂)
 | brk => cases hf; exact hQ _ h₁ t₁ _ _ _ _ hk R₁ rfl kw ex
 | cont => cases hf; exact hQ _ h₁ t₁ _ _ _ _ hk R₁ rfl kw ex
 | ret av => obtain ⟨v,rfl,hv⟩:=hf; exact hQ _ h₁ t₁ _ _ _ _ hk R₁ ⟨v,rfl,hv⟩ kw ex
theorem S.assign {x:Str} {p pos:Pos} {e:Expr} {T:TE} {i:Nat} (he:E W c e T) (hx:St W c x i) (hs:swapsWith e (some (.Name x p)) pos.line c.env = pure false) :
  S W c (.Assign [.Name x p] e pos) (fun vs ob k => T vs ob fun av ob' => k .next (setV vs i av) ob'):=by
 intro A hid vs ob k s as Q hA ht R hQ
 refine wpAny_Assign_Name (he A hid vs ob _ s as _ hA ht R fun v h₁ t₁ av ob₁ as₁ hk R₁ hv kp ex => ?_) hs
 refine hx A hid vs ob₁ { s with heap:=h₁,toks:=t₁ } as₁ _ av v R₁ hv fun h₂ t₂ R₂ kp₂ _ => ?_
 exact hQ .next h₂ t₂ .next _ _ as₁ hk R₂ rfl (kp.kw.trans (kp₂.more fun a ha => .inl (List.mem_append_left _ ha)) ex) ex
theorem S.ret {e:Expr} {pos:Pos} {T:TE} (he:E W c e T):S W c (.Return (some e) pos) (fun vs ob k => T vs ob fun av ob' => k (.ret av) vs ob'):=by
 intro A hid vs ob k s as Q hA ht R hQ
 refine wpAny_Return_some (he A hid vs ob _ s as _ hA ht R fun v h₁ t₁ av ob₁ as₁ hk R₁ hv kp ex => ?_)
 exact hQ _ h₁ t₁ (.ret av) _ _ as₁ hk R₁ ⟨v,rfl,hv⟩ kp.kw ex
theorem S.ret0 {pos:Pos}:S W c (.Return none pos) (fun vs ob k => k (.ret .none) vs ob):=fun _ _ _ _ _ s as _ _ hk R hQ =>
 wpAny_Return_none (hQ _ s.heap s.toks (.ret .none) _ _ as hk R ⟨_,rfl,TV.none⟩ Kp.refl .refl)
theorem S.pass {pos:Pos}:S W c (.Pass pos) (fun vs ob k => k .next vs ob):=fun _ _ _ _ _ s as _ _ hk R hQ =>
 wpAny_Pass (hQ _ s.heap s.toks .next _ _ as hk R rfl Kp.refl .refl)
theorem S.brk {pos:Pos}:S W c (.Break pos) (fun vs ob k => k .brk vs ob):=fun _ _ _ _ _ s as _ _ hk R hQ =>
 wpAny_Break (hQ _ s.heap s.toks .brk _ _ as hk R rfl Kp.refl .refl)
noncomputable abbrev TB:=VS → OB → (Bool → OB → Prop) → Prop
noncomputable def Is (W:Wd) (c:Cx) (e:Expr) (T:TB):Prop :=
 ∀ (A:Around) (hid:List Addr) (vs:VS) (ob:OB) (k:Bool → OB → Prop) (s:Shared) (as:AS) (Q:Bool → Shared → Prop),
  OkA c.d A → T vs ob k → Rel W c hid vs ob as s.heap →
  (∀ (b:Bool) (h':Heap) (tk:Nat) (ob':OB) (as':AS),k b ob' → Rel W c hid vs ob' as' h' → Kp W (live as) s.heap h' → Ex s.heap as as' → Q b { s with heap:=h',toks:=tk }) →
  wpAny (model W.prog W.w) A (isTrue e c.env (eval e c.env)) Q (fun _ _ => False) s
theorem S.if {e:Expr} {body orelse:List Stmt} {pos:Pos} {T:TB} {T₁ T₂:TS} (he:Is W c e T) (h₁:Ss W c body T₁) (h₂:Ss W c orelse T₂) :
  S W c (.If e body orelse pos) (fun vs ob k => T vs ob fun b ob' => (b = true → T₁ vs ob' k) ∧ (b = false → T₂ vs ob' k)):=by
 intro A hid vs ob k s as Q hA ht R hQ
 refine wpAny_If (he A hid vs ob _ s as _ hA ht R fun b h' t' ob' as' hk R' kp ex => ?_)
 have fin:∀ {t:Sem Flow} {T:TS},Run W c t T → T vs ob' k → wpAny (model W.prog W.w) A t Q (fun _ _ => False) { s with heap:=h',toks:=t' }:=fun hr ht =>
  hr A hid vs ob' k { s with heap:=h',toks:=t' } as' Q hA ht R' fun f h₂ t₂ fl vs₂ ob₂ as₂ hk₂ R₂ hf₂ kw₂ ex₂ => hQ f h₂ t₂ fl vs₂ ob₂ as₂ hk₂ R₂ hf₂ (kp.kw.trans kw₂ ex) (ex.trans kp ex₂)
 cases b with
 | true => exact fin h₁ (hk.1 rfl)
 | false => exact fin h₂ (hk.2 rfl)
end
section
set_option backward.match.sparseCases false
variable {W:Wd} {c:Cx} {hid:List Addr}
noncomputable def AV.i?:AV → Option Int
 | .int i => some i
 | _ => Option.none
noncomputable def AV.s?:AV → Option Str
 | .str i => some i
 | _ => Option.none
noncomputable def AV.l?:AV → Option (List AV)
 | .lst i => some i
 | _ => Option.none
noncomputable def AV.t?:AV → Option (List AV)
 | .tup i => some i
 | _ => Option.none
theorem AV.iI {a:AV} {i:Int}:a.i? = some i → a = .int i:=by cases a <;> first | exact noS | exact fun h => congrArg AV.int (Option.some.inj h)
theorem AV.sI {a:AV} {i:Str}:a.s? = some i → a = .str i:=by cases a <;> first | exact noS | exact fun h => congrArg AV.str (Option.some.inj h)
theorem AV.lI {a:AV} {i:List AV}:a.l? = some i → a = .lst i:=by cases a <;> first | exact noS | exact fun h => congrArg AV.lst (Option.some.inj h)
theorem AV.tI {a:AV} {i:List AV}:a.t? = some i → a = .tup i:=by cases a <;> first | exact noS | exact fun h => congrArg AV.tup (Option.some.inj h)
noncomputable def mulNo (x:Str) (n:Int):Bool :=
 (decide (n < -(2 ^ 63:Int)) || decide (n ≥ 2 ^ 63)) || (!decide (n < 1) && !(n == 1 || x.length == 0) && (decide ((x.length:Int) > (2 ^ 63 - 1) / n) || Builtin.Str.tooLong (x.length * n.toNat)))
noncomputable def imulNo (a b:Int):Bool:=decide (Builtin.Int.intBits a > shortFactorBits) && decide (Builtin.Int.intBits b > shortFactorBits) && Builtin.Int.intTooBig (Builtin.Int.intBits a + Builtin.Int.intBits b)
theorem mulNo_ok {x:Str} {n:Int} (h:¬ mulNo x n = true):MulOk x n:=by
 unfold mulNo at h
 unfold MulOk
 simp only [Bool.or_eq_true,Bool.and_eq_true,Bool.not_eq_true',not_or,not_and,decide_eq_true_eq,decide_eq_false_iff_not,Bool.not_eq_true] at h
 obtain ⟨⟨h1,h2⟩,h3⟩:=h
 refine ⟨by rw [decide_eq_false h1,decide_eq_false h2]; rfl,fun a b => (h3 ⟨a,b⟩).1,fun a b => (h3 ⟨a,b⟩).2⟩
noncomputable def iiF {α:Type} (a b:AV) (f:Int → Int → Option α):Option α:=a.i?.bind fun x => b.i?.bind fun y => f x y
@[elab_as_elim] theorem iiE {α:Type} {f:Int → Int → Option α} {a b:AV} {z:α} {G:GP} {P:Value → Value → Prop} {va vb:Value} (e:iiF a b f = some z) (ha:TV G a va) (hb:TV G b vb) (h:∀ x t y u,f x y = some z → P (.int x t) (.int y u)):P va vb:=by
 obtain ⟨x,e1,e⟩:=bindS e
 obtain ⟨y,e2,e⟩:=bindS e
 rw [AV.iI e1] at ha
 rw [AV.iI e2] at hb
 exact ha.intE fun _ => hb.intE fun _ => h _ _ _ _ e
noncomputable def addF (a b:AV):Option AV :=
 match a with
 | .int x => b.i?.bind fun y => some (.int (x + y))
 | .str x => b.s?.bind fun y => if x.length + y.length ≤ sizeLine then some (.str (x ++ y)) else none
 | .lst xs => b.l?.bind fun ys => if xs.length + ys.length ≤ sizeLine then some (.lst (xs ++ ys)) else none
 | .tup xs => b.t?.bind fun ys => if xs.length + ys.length ≤ sizeLine ∧ xs.isEmpty = false ∧ ys.isEmpty = false then some (.tup (xs ++ ys)) else none
 | _ => none
noncomputable def mulF (a b:AV):Option AV:=b.i?.bind fun y => match a with
 | .int x => if imulNo x y = true then none else some (.int (x * y))
 | .str x => if mulNo x y = true then none else some (.str (Txt.mul x y))
 | .lst xs => if xs.isEmpty = false ∧ y < 2 ^ 63 ∧ -(2 ^ 63) ≤ y ∧ xs.length * y.toNat ≤ sizeLine then some (.lst (List.replicate y.toNat xs).flatten) else none
 | _ => none
noncomputable def bopF (op:Operator) (a b:AV):Option AV :=
 match op with
 | .Add => addF a b
 | .Sub => iiF a b fun x y => some (.int (x - y))
 | .Mult => mulF a b
 | .FloorDiv => iiF a b fun x y => if y ≠ 0 ∧ Builtin.divisionGoesByPylong x y = false then some (.int (x.fdiv y)) else none
 | .Mod => iiF a b fun x y => if y ≠ 0 then some (.int (x.fmod y)) else none
 | .LShift => iiF a b fun x y => if 0 ≤ y ∧ (Builtin.Int.intBits x:Int) + y ≤ 2 ^ 27 then some (.int (x * 2 ^ y.toNat)) else none
 | .RShift => iiF a b fun x y => if 0 ≤ y then some (.int (x.fdiv (2 ^ y.toNat))) else none
 | .Pow => iiF a b fun x y => if 0 ≤ y ∧ (Builtin.Int.intBits x:Int) * y ≤ 2 ^ 27 then some (.int (x ^ y.toNat)) else none
 | .BitAnd => iiF a b fun x y => some (.int (Builtin.bitAnd x y))
 | .BitOr => iiF a b fun x y => some (.int (Builtin.bitOr x y))
 | .BitXor => iiF a b fun x y => some (.int (Builtin.bitXor x y))
 | .MatMult => none
 | .Div => none
noncomputable def bop (op:Operator):BOp:=fun a b k => ∃ z,bopF op a b = some z ∧ k z
theorem gh_push {h:Heap} {av:List Addr} {o:Obj} (B:Base W av h) (hf:o.isFreed = false):Gh W (h.push o) av h.objs.size o:=by
 refine ⟨Heap.get?_push_size _ hf,fun hm => ?_,fun hm => ?_⟩
 ·have:=(B.dis _ hm).2.1
  cases e:h.get? h.objs.size with
  | none => (first | exact noO e this | exact noI e this | (rw [e] at this; cases this))
  | some o' => exact absurd (Heap.lt_size e) (Nat.lt_irrefl _)
 ·obtain ⟨pr,_,_,q⟩:=B.inv
  obtain ⟨t,ht,e⟩:=List.mem_map.mp hm
  have:(h.get? t.P).isSome = true:=by
   rcases (q t ht).2 with x | ⟨c',_,_,x,_⟩
   ·rw [x.2.2]; rfl
   ·rw [x.2]; rfl
  rw [e] at this
  cases e':h.get? h.objs.size with
  | none => (first | exact noO e' this | exact noI e' this | (rw [e'] at this; cases this))
  | some o' => exact absurd (Heap.lt_size e') (Nat.lt_irrefl _)
theorem push_grow (h:Heap) (o:Obj):∀ b o',h.get? b = some o' → (h.push o).get? b = some o':=fun _ _ e => Heap.get?_push_of_some _ e
theorem TVs.grow {h h':Heap} {av:List Addr} {xs vs} (t:TVs (Gh W h av) xs vs) (g:∀ b o,h.get? b = some o → h'.get? b = some o):TVs (Gh W h' av) xs vs:=t.mono fun _ _ ⟨e,r⟩ => ⟨g _ _ e,r⟩
theorem TV.grow {h h':Heap} {av:List Addr} {xs vs} (t:TV (Gh W h av) xs vs) (g:∀ b o,h.get? b = some o → h'.get? b = some o):TV (Gh W h' av) xs vs:=t.mono fun _ _ ⟨e,r⟩ => ⟨g _ _ e,r⟩
theorem TV.newLst {h:Heap} {av:List Addr} {xs vs n} (B:Base W av h) (t:TVs (Gh W h av) xs vs):TV (Gh W (h.push (lstO vs n)) av) (.lst xs) (.ref h.objs.size) :=
 .lst (gh_push B rfl) (t.grow (push_grow _ _))
theorem TV.newTup {h:Heap} {av:List Addr} {xs vs n} (B:Base W av h) (t:TVs (Gh W h av) xs vs):TV (Gh W (h.push (tupO vs n)) av) (.tup xs) (.ref h.objs.size) :=
 .tup (gh_push B rfl) (t.grow (push_grow _ _))
theorem ne_arr {xs:List AV} {vs:List Value} {G:GP} (t:TVs G xs vs) (e:xs.isEmpty = false):¬ vs.toArray.isEmpty = true:=by
 cases t with
 | nil => cases e
 | cons => simp
theorem TVs.rep {G:GP} {xs vs} (t:TVs G xs vs):∀ j,TVs G (List.replicate j xs).flatten (List.replicate j vs).flatten
 | 0 => .nil
 | j + 1 => t.append (t.rep j)
theorem bop_ok (op:Operator):BinOk W op (bop op):=by
 intro A a b va vb k s av Q _ _ ⟨z,e,hk⟩ B ha hb hQ
 have fin:∀ (v:Value) (tk:Nat) r,r = z → TV (Gh W s.heap av) r v → Q v { s with heap:=s.heap,toks:=tk }:=fun v tk r e hv => hQ v s.heap tk r (e ▸ hk) (fun _ _ e => e) hv
 cases op with
 | Add =>
  revert ha e
  cases a with
  | int x =>
   intro ha e
   obtain ⟨y,e1,e⟩:=bindS e
   rw [AV.iI e1] at hb
   exact ha.intE fun _ => hb.intE fun _ => AutoIntOps.add_0 (fin _ _ _ (Option.some.inj e) (.int ..))
  | str x =>
   intro ha e
   obtain ⟨y,e1,e⟩:=bindS e
   rw [AV.sI e1] at hb
   have e:=ifS e
   exact ha.strE fun _ => hb.strE fun _ => SB.add (hsz:=e.1) fun t' kk => fin _ _ _ e.2 (.str ..)
  | lst xs =>
   intro ha e
   obtain ⟨ys,e1,e⟩:=bindS e
   rw [AV.lI e1] at hb
   have e:=ifS e
   refine ha.lstE fun l vs n g hvs => hb.lstE fun b us m g' hus => ?_
   refine concat_meets ⟨_,g.1,rfl⟩ ⟨_,g'.1,rfl⟩ noFill_list_add seq_list_add PySem.F.slot_list_add PySem.F.entry_list_add (PySem.F.args_list_add_2 _ _) (list_addW l b vs.toArray us.toArray n m none none #[] #[] (by simpa [← hvs.length,← hus.length] using e.1)) ⟨g.1,g'.1,?_⟩
   exact hQ _ _ _ _ hk (push_grow _ _) (e.2 ▸ List.append_toArray .. ▸ TV.newLst (n:=0) B (hvs.append hus))
  | tup xs =>
   intro ha e
   obtain ⟨ys,e1,e⟩:=bindS e
   rw [AV.tI e1] at hb
   have e:=ifS e
   refine ha.tupE fun l vs n g hvs => hb.tupE fun b us m g' hus => ?_
   refine concat_meets ⟨_,g.1,rfl⟩ ⟨_,g'.1,rfl⟩ noFill_tuple_add seq_tuple_add PySem.F.slot_tuple_add PySem.F.entry_tuple_add (PySem.F.args_tuple_add_2 _ _) (AutoSeq1.tuple___add___tuple_tuple_2 l vs.toArray n b us.toArray m (ne_arr hvs e.1.2.1) (ne_arr hus e.1.2.2) (by simpa [← hvs.length,← hus.length] using e.1.1)) ⟨g.1,g'.1,?_⟩
   exact hQ _ _ _ _ hk (push_grow _ _) (e.2 ▸ List.append_toArray .. ▸ TV.newTup (n:=0) B (hvs.append hus))
  | _ => exact fun _ => noS
 | Sub => exact iiE e ha hb fun x t y u e => AutoIntOps.sub_0 (fin _ _ _ (Option.some.inj e) (.int ..))
 | Mult =>
  obtain ⟨y,e1,e⟩:=bindS e
  rw [AV.iI e1] at hb
  refine hb.intE fun u => ?_
  revert ha e
  cases a with
  | int x =>
   intro ha e
   have e:=ifN e
   exact ha.intE fun _ => AutoIntOps.mul_0 (hm:=e.1) (fin _ _ _ e.2 (.int ..))
  | str x =>
   intro ha e
   have e:=ifN e
   exact ha.strE fun _ => SB.mul (mulNo_ok e.1) fun t' kk => fin _ _ _ e.2 (.str ..)
  | lst xs =>
   intro ha e
   refine ha.lstE fun l vs n g hvs => ?_
   obtain ⟨⟨hne,h1,h2,h3⟩,e⟩:=ifS e
   have hsz:vs.toArray.size * y.toNat ≤ 2 ^ 24:=by rw [List.size_toArray,← hvs.length]; exact h3
   refine wpAny_binaryOp_repeat_ref (T:="list") (U:="int") (by decide) ⟨_,g.1,rfl⟩ (fun s' => typeIs_int s' _ _) noFill_list_mul F.fills_int_mul F.slot_int_rmul repeat_list F.slot_int_index.lookup
    (call_meets F.slot_int_rmul (typeIs_int s _ _) F.entry_int_rmul (F.args_int_rmul_2 _ _) (int___rmul___int_list _ _ l vs.toArray n)
    ⟨g.1,rfl,⟨_,g.1,rfl⟩,call_meets F.slot_list_mul ⟨_,g.1,rfl⟩ F.entry_list_mul (F.args_list_mul_2 _ _)
     (AutoListH.list___mul___list_int_3 l vs.toArray n _ _ (by simp [Builtin.List.listFitsIndex]; omega) (by omega) (by simp [Builtin.List.listTooLong,sizeLine]; omega))
     ⟨g.1,?_⟩⟩)
   rw [Bool.eq_false_iff.mpr (ne_arr hvs hne)]
   simp only [Bool.false_eq_true,if_false,listMul_foldl]
   exact hQ _ _ s.toks _ hk (push_grow s.heap (lstO _ 0)) (e ▸ TV.newLst (n:=0) B (hvs.rep _))
  | _ => exact fun _ => noS
 | FloorDiv => exact iiE e ha hb fun x t y u e => have h:=ifS e; floordiv_int h.1.1 (fin _ _ _ h.2 (.int ..)) (.inl h.1.2)
 | Mod => exact iiE e ha hb fun x t y u e => have h:=ifS e; mod_int' h.1 (fin _ _ _ h.2 (.int ..))
 | LShift => exact iiE e ha hb fun x t y u e => have h:=ifS e; lshift_int h.1.1 h.1.2 (fin _ _ _ h.2 (.int ..))
 | RShift => exact iiE e ha hb fun x t y u e => have h:=ifS e; rshift_int h.1 (fin _ _ _ h.2 (.int ..))
 | Pow => exact iiE e ha hb fun x t y u e => have h:=ifS e; pow_int h.1.1 h.1.2 (fin _ _ _ h.2 (.int ..))
 | BitAnd => exact iiE e ha hb fun x t y u e => and_int (fin _ _ _ (Option.some.inj e) (.int ..))
 | BitOr => exact iiE e ha hb fun x t y u e => or_int (fin _ _ _ (Option.some.inj e) (.int ..))
 | BitXor => exact iiE e ha hb fun x t y u e => xor_int (fin _ _ _ (Option.some.inj e) (.int ..))
 | _ => exact noS e
end
section
set_option backward.match.sparseCases false
variable {W:Wd} {c:Cx} {hid:List Addr}
mutual
noncomputable def AV.toP:AV → PyData
 | .none => .none
 | .bool b => .bool b
 | .int i => .int i
 | .str x => .str x
 | .tup xs => .tuple (toPs xs)
 | .lst xs => .list (toPs xs)
 | _ => .none
noncomputable def toPs:List AV → List PyData
 | [] => []
 | x :: xs => x.toP :: toPs xs
end
mutual
noncomputable def AV.isP:AV → Bool
 | .none | .bool _ | .int _ | .str _ => true
 | .tup xs | .lst xs => isPs xs
 | _ => false
noncomputable def isPs:List AV → Bool
 | [] => true
 | x :: xs => x.isP && isPs xs
end
theorem tupP_reads {h:Heap} {av:List Addr} {a vs n xs} (g:Gh W h av a (tupO vs n)) (r:isPs xs = true → ∃ as,ReadsAll h vs (toPs xs) as) (e:(AV.tup xs).isP = true):∃ as,Reads h (.ref a) (AV.tup xs).toP as:=by
 obtain ⟨as,r⟩:=r e
 exact ⟨_,.tuple g.1 rfl rfl r⟩
theorem lstP_reads {h:Heap} {av:List Addr} {a vs n xs} (g:Gh W h av a (lstO vs n)) (r:isPs xs = true → ∃ as,ReadsAll h vs (toPs xs) as) (e:(AV.lst xs).isP = true):∃ as,Reads h (.ref a) (AV.lst xs).toP as:=by
 obtain ⟨as,r⟩:=r e
 exact ⟨_,.list g.1 rfl rfl r⟩
theorem consP_reads {h:Heap} {x v xs vs} (r:AV.isP x = true → ∃ as,Reads h v x.toP as) (rs:isPs xs = true → ∃ as,ReadsAll h vs (toPs xs) as) (e:isPs (x :: xs) = true):∃ as,ReadsAll h (v :: vs) (toPs (x :: xs)) as:=by
 obtain ⟨as,r⟩:=r (and2 e).1
 obtain ⟨bs,rs⟩:=rs (and2 e).2
 exact ⟨_,.cons r rs⟩
theorem TV.reads {h:Heap} {av:List Addr} {x v} (t:TV (Gh W h av) x v):x.isP = true → ∃ as,Reads h v x.toP as :=
 TV.rec (motive_1:=fun x v _ => x.isP = true → ∃ as,Reads h v x.toP as) (motive_2:=fun xs vs _ => isPs xs = true → ∃ as,ReadsAll h vs (toPs xs) as) (fun _ => ⟨_,.none⟩) (fun b _ => ⟨_,.bool b⟩) (fun i t _ => ⟨_,.int i t⟩) (fun i t _ => ⟨_,.str i t⟩)
  (fun _ e => absurd e Bool.false_ne_true) (fun _ _ e => absurd e Bool.false_ne_true) (fun g _ r => tupP_reads g r) (fun g _ r => lstP_reads g r) (fun _ _ _ _ _ _ _ _ _ _ e => absurd e Bool.false_ne_true) (fun _ => ⟨_,.nil⟩) (fun _ _ r rs => consP_reads r rs) t
theorem TVs.reads {h:Heap} {av:List Addr} {xs vs} (t:TVs (Gh W h av) xs vs):isPs xs = true → ∃ as,ReadsAll h vs (toPs xs) as:=t.ind (fun _ => ⟨_,.nil⟩) fun _ _ _ _ a _ rs => consP_reads a.reads rs
noncomputable abbrev COp:=AV → AV → (Bool → Prop) → Prop
noncomputable def AV.b?:AV → Option Bool
 | .bool i => some i
 | _ => Option.none
noncomputable def AV.ty?:AV → Option String
 | .cst v => match v with
  | .type x => some x
  | _ => Option.none
 | _ => Option.none
noncomputable def AV.n?:AV → Option Unit
 | .none => some ()
 | _ => Option.none
theorem AV.bI {a:AV} {i:Bool}:a.b? = some i → a = .bool i:=by cases a <;> first | exact noS | exact fun h => congrArg AV.bool (Option.some.inj h)
theorem AV.nI {a:AV} {i:Unit}:a.n? = some i → a = .none:=by cases a <;> first | exact noS | exact fun h => rfl
theorem AV.tyI {a:AV} {i:String}:a.ty? = some i → a = .cst (.type i):=by
 cases a with
 | cst v => cases v <;> first | exact noS | exact fun h => congrArg (fun x => AV.cst (.type x)) (Option.some.inj h)
 | _ => exact noS
noncomputable def eqF (a b:AV):Option Bool:=if a.isP && b.isP && shaped a.toP && shaped b.toP then some (PyData.eqv a.toP b.toP) else none
noncomputable def isF (a b:AV):Option Bool :=
 match a with
 | .bool x => b.b?.bind fun y => some (x == y)
 | .none => b.n?.bind fun _ => some true
 | .lst _ => b.n?.bind fun _ => some false
 | .cst v => (AV.cst v).ty?.bind fun x => b.ty?.bind fun y => some (x == y)
 | _ => none
noncomputable def isNotF (a b:AV):Option Bool :=
 match a with
 | .none => b.n?.bind fun _ => some false
 | .str _ => b.n?.bind fun _ => some true
 | .lst _ => b.n?.bind fun _ => some true
 | .cst v => (AV.cst v).ty?.bind fun x => b.ty?.bind fun y => some (!(x == y))
 | _ => none
noncomputable def copF (op:CmpOp) (a b:AV):Option Bool :=
 match op with
 | .Eq => eqF a b
 | .NotEq => (eqF a b).bind fun z => some (!z)
 | .Lt => iiF a b fun x y => some (decide (x < y))
 | .LtE => iiF a b fun x y => some (decide (x ≤ y))
 | .Gt => iiF a b fun x y => some (decide (x > y))
 | .GtE => iiF a b fun x y => some (decide (x ≥ y))
 | .Is => isF a b
 | .IsNot => isNotF a b
 | .NotIn => b.l?.bind fun ys => if a.isP && isPs ys && PyData.canLayAll0 (toPs ys) && a.toP.canLay0 && decide (a.toP.depth ≤ 8) then some (!(toPs ys).any fun y => PyData.eqv y a.toP) else none
 | .In => none
noncomputable def cop (op:CmpOp):COp:=fun a b k => ∃ z,copF op a b = some z ∧ k z
theorem eqF_ok {a b:AV} {va vb:Value} {h:Heap} {av:List Addr} {z:Bool} (e:eqF a b = some z) (ha:TV (Gh W h av) a va) (hb:TV (Gh W h av) b vb):∃ as bs,Reads h va a.toP as ∧ Reads h vb b.toP bs ∧ shaped a.toP = true ∧ shaped b.toP = true ∧ PyData.eqv a.toP b.toP = z:=by
 obtain ⟨c,e⟩:=ifS e
 have c:=Bool.and_eq_true_iff.mp c
 have d:=Bool.and_eq_true_iff.mp c.1
 have f:=Bool.and_eq_true_iff.mp d.1
 obtain ⟨as,ra⟩:=ha.reads f.1
 obtain ⟨bs,rb⟩:=hb.reads f.2
 exact ⟨as,bs,ra,rb,d.2,c.2,e⟩
theorem ty_beq (x y:String):((Value.type x == Value.type y):Bool) = (x == y):=by
 by_cases q:x = y
 ·subst q; simp
 ·rw [beq_eq_false_iff_ne.mpr q,beq_eq_false_iff_ne.mpr fun z => q (by cases z; rfl)]
theorem bl_beq (x y:Bool):((Value.bool x == Value.bool y):Bool) = (x == y):=by cases x <;> cases y <;> rfl
theorem cop_ok (op:CmpOp) {A:Around} {a b:AV} {va vb:Value} {k:Bool → Prop} {s:Shared} {av:List Addr} {Q:Value → Shared → Prop} (hU:A.units + 128 ≤ cLine) (hf:cop op a b k)
  (ha:TV (Gh W s.heap av) a va) (hb:TV (Gh W s.heap av) b vb) (hQ:∀ r,k r → Q (.bool r) s):wpAny (model W.prog W.w) A (compareOp op va vb) Q (fun _ _ => False) s:=by
 obtain ⟨z,e,hk⟩:=hf
 have q:∀ r,r = z → Q (.bool r) s:=fun r e => hQ r (e ▸ hk)
 cases op with
 | Eq =>
  obtain ⟨as,bs,ra,rb,h3,h4,e⟩:=eqF_ok e ha hb
  exact eq_dataH ra rb h3 h4 (by lia) (q _ e)
 | NotEq =>
  obtain ⟨z,e1,e2⟩:=bindS e
  obtain ⟨as,bs,ra,rb,h3,h4,e⟩:=eqF_ok e1 ha hb
  exact ne_dataH ra rb h3 h4 (by lia) (q _ (e ▸ Option.some.inj e2))
 | Lt => exact iiE e ha hb fun x t y u e => P.lt_int (q _ (Option.some.inj e))
 | LtE => exact iiE e ha hb fun x t y u e => P.le_int (q _ (Option.some.inj e))
 | Gt => exact iiE e ha hb fun x t y u e => P.gt_int (q _ (Option.some.inj e))
 | GtE => exact iiE e ha hb fun x t y u e => P.ge_int (q _ (Option.some.inj e))
 | Is =>
  revert ha e
  cases a with
  | bool x =>
   intro ha e
   obtain ⟨y,e1,e⟩:=bindS e
   rw [AV.bI e1] at hb
   exact ha.boolE (hb.boolE (wpAny_is_plain rfl (q _ ((bl_beq x y).trans (Option.some.inj e)))))
  | none =>
   intro ha e
   obtain ⟨y,e1,e⟩:=bindS e
   rw [AV.nI e1] at hb
   exact ha.noneE (hb.noneE (wpAny_is_plain rfl (q _ (Option.some.inj e))))
  | lst xs =>
   intro ha e
   obtain ⟨y,e1,e⟩:=bindS e
   rw [AV.nI e1] at hb
   exact ha.lstE fun _ _ _ _ _ => hb.noneE (wpAny_is_plain rfl (q _ (Option.some.inj e)))
  | cst v =>
   intro ha e
   obtain ⟨x,e0,e⟩:=bindS e
   obtain ⟨y,e1,e⟩:=bindS e
   rw [AV.tyI e0] at ha
   rw [AV.tyI e1] at hb
   exact ha.cstE (hb.cstE (wpAny_is_plain rfl (q _ ((ty_beq x y).trans (Option.some.inj e)))))
  | _ => exact fun _ => noS
 | IsNot =>
  revert ha e
  cases a with
  | none =>
   intro ha e
   obtain ⟨y,e1,e⟩:=bindS e
   rw [AV.nI e1] at hb
   exact ha.noneE (hb.noneE (wpAny_isNot_plain rfl (q _ (Option.some.inj e))))
  | str xs =>
   intro ha e
   obtain ⟨y,e1,e⟩:=bindS e
   rw [AV.nI e1] at hb
   exact ha.strE fun _ => hb.noneE (wpAny_isNot_plain rfl (q _ (Option.some.inj e)))
  | lst xs =>
   intro ha e
   obtain ⟨y,e1,e⟩:=bindS e
   rw [AV.nI e1] at hb
   exact ha.lstE fun _ _ _ _ _ => hb.noneE (wpAny_isNot_plain rfl (q _ (Option.some.inj e)))
  | cst v =>
   intro ha e
   obtain ⟨x,e0,e⟩:=bindS e
   obtain ⟨y,e1,e⟩:=bindS e
   rw [AV.tyI e0] at ha
   rw [AV.tyI e1] at hb
   exact ha.cstE (hb.cstE (wpAny_isNot_plain rfl (q _ ((congrArg not (ty_beq x y)).trans (Option.some.inj e)))))
  | _ => exact fun _ => noS
 | NotIn =>
  obtain ⟨ys,e1,e⟩:=bindS e
  rw [AV.lI e1] at hb
  obtain ⟨c,e⟩:=ifS e
  have c:=Bool.and_eq_true_iff.mp c
  have d:=Bool.and_eq_true_iff.mp c.1
  have f:=Bool.and_eq_true_iff.mp d.1
  have g:=Bool.and_eq_true_iff.mp f.1
  obtain ⟨as,ra⟩:=ha.reads g.1
  obtain ⟨bs,rb⟩:=hb.reads g.2
  have h6:=of_decide_eq_true c.2
  exact notIn_list_reads (show Reads _ _ (.list (toPs ys)) bs from rb) ra f.2 d.2 (by have:=Nat.min_le_right (PyData.depthAll (toPs ys)) a.toP.depth; lia) (q _ e)
 | In => exact noS e
theorem E.cmp {op:CmpOp} {l r:Expr} {pos:Pos} {Tl Tr:TE} (hl:E W c l Tl) (hr:E W c r Tr) (hm:behindInMarks op r = false) :
  E W c (.Compare l [op] [r] pos) (fun vs ob k => Tl vs ob fun a ob₁ => Tr vs ob₁ fun b ob₂ => a.tree = true ∧ b.tree = true ∧ cop op a b fun r => k (.bool r) ob₂):=by
 intro A hid vs ob k s as Q hA ht R hQ
 refine wpAny_Compare1 (hl A hid vs ob _ s as _ hA ht R fun va h₁ t₁ a ob₁ as₁ ht₁ R₁ hva kp₁ ex₁ => ?_) hm
 refine hr.then hA ht₁ R₁ kp₁ ex₁ fun vb h₂ t₂ b ob₂ as₂ ⟨ta,tb,hf⟩ R₂ hvb kp₂ ex₂ kp ex => ?_
 have hva':=(hva.step kp₂ (fun a ha => mem_av_live ha) ex₂).tree ta
 exact cop_ok op hA.u hf hva' (hvb.tree tb) fun r hk => hQ _ h₂ t₂ _ ob₂ as₂ hk R₂ (TV.bool r) kp ex
noncomputable def truF (a:AV):Option Bool :=
 match a with
 | .bool b => some b
 | .int i => some (i != 0)
 | .none => some false
 | .lst xs => if xs.length ≤ sizeLine then some (!xs.isEmpty) else none
 | _ => none
noncomputable def tru (a:AV) (k:Bool → Prop):Prop:=∃ z,truF a = some z ∧ k z
theorem TVs.isEmpty {G:GP} {xs vs} (t:TVs G xs vs):vs.toArray.isEmpty = xs.isEmpty:=by cases t <;> simp
theorem tru_ok {A:Around} {a:AV} {v:Value} {k:Bool → Prop} {s:Shared} {av:List Addr} {Q:Bool → Shared → Prop} (hf:tru a k) (ha:TV (Gh W s.heap av) a v)
  (hQ:∀ r tk,k r → Q r { s with toks:=tk }):wpAny (model W.prog W.w) A (truthy v) Q (fun _ _ => False) s:=by
 obtain ⟨z,e,hk⟩:=hf
 have q:∀ r tk,r = z → Q r { s with toks:=tk }:=fun r tk e => hQ r tk (e ▸ hk)
 revert ha e
 cases a with
 | bool b => exact fun ha e => ha.boolE (wpAny_truthy_bool (q _ s.toks (Option.some.inj e)))
 | int i => exact fun ha e => ha.intE fun _ => P.truthy_int (q _ s.toks (Option.some.inj e))
 | none => exact fun ha e => ha.noneE fun _ _ _ => q _ s.toks (Option.some.inj e)
 | lst xs =>
  intro ha e
  have e:=ifS e
  refine ha.lstE fun a vs n g t => wpAny_truthy_list (l:=a) (items:=vs.toArray) ⟨_,g.1,rfl,_,rfl⟩ ?_ (q _ _ (t.isEmpty ▸ e.2))
  rw [List.size_toArray,← t.length]
  have:=e.1
  unfold sizeLine at this
  lia
 | _ => exact fun _ => noS
theorem Is.cmp {op:CmpOp} {l r:Expr} {pos:Pos} {Tl Tr:TE} (hl:E W c l Tl) (hr:E W c r Tr) (hm:behindInMarks op r = false) :
  Is W c (.Compare l [op] [r] pos) (fun vs ob k => Tl vs ob fun a ob₁ => Tr vs ob₁ fun b ob₂ => a.tree = true ∧ b.tree = true ∧ cop op a b fun r => k r ob₂):=by
 intro A hid vs ob k s as Q hA ht R hQ
 refine wpAny_isTrue_Compare1 (hl A hid vs ob _ s as _ hA ht R fun va h₁ t₁ a ob₁ as₁ ht₁ R₁ hva kp₁ ex₁ => ?_) hm
 refine hr.then hA ht₁ R₁ kp₁ ex₁ fun vb h₂ t₂ b ob₂ as₂ ⟨ta,tb,hf⟩ R₂ hvb kp₂ ex₂ kp ex => ?_
 have hva':=(hva.step kp₂ (fun a ha => mem_av_live ha) ex₂).tree ta
 exact cop_ok op hA.u hf hva' (hvb.tree tb) fun r hk => wpAny_truthy_bool (hQ _ h₂ t₂ ob₂ as₂ hk R₂ kp ex)
theorem Is.not {x:Expr} {pos:Pos} {T:TB} (h:Is W c x T):Is W c (.UnaryOp .Not x pos) (fun vs ob k => T vs ob fun b ob' => k (!b) ob'):=by
 intro A hid vs ob k s as Q hA ht R hQ
 exact wpAny_isTrue_Not (h A hid vs ob _ s as _ hA ht R fun b h' t' ob' as' hk R' kp ex => hQ _ h' t' ob' as' hk R' kp ex)
theorem Is.val {e:Expr} {T:TE} (h:E W c e T) (he:∀ t,isTrue e c.env t = (do let v ← t; standAt e.pos; holding [v] (truthy v))):Is W c e (fun vs ob k => T vs ob fun a ob' => a.tree = true ∧ tru a fun b => k b ob'):=by
 intro A hid vs ob k s as Q hA ht R hQ
 refine wpAny_isTrue_value (h A hid vs ob _ s as _ hA ht R fun v h' t' a ob' as' hk R' hv kp ex => ?_) (he _)
 exact tru_ok hk.2 (hv.tree hk.1) fun r tk hk => hQ r h' tk ob' as' hk R' kp ex
theorem Is.or {x y:Expr} {pos:Pos} {Tx Ty:TB} (hx:Is W c x Tx) (hy:Is W c y Ty):Is W c (.BoolOp .Or [x,y] pos) (fun vs ob k => Tx vs ob fun b ob' => (b = true → k true ob') ∧ (b = false → Ty vs ob' fun b' ob'' => k b' ob'')):=by
 intro A hid vs ob k s as Q hA ht R hQ
 refine wpAny_isTrue_BoolOp (wpAny_allTrue_Or_cons (hx A hid vs ob _ s as _ hA ht R fun b h₁ t₁ ob₁ as₁ hk R₁ kp ex => ?_))
 cases b with
 | true => exact hQ _ h₁ t₁ ob₁ as₁ (hk.1 rfl) R₁ kp ex
 | false =>
  simp only [Bool.false_eq_true,if_false]
  refine wpAny_allTrue_Or_cons (hy A hid vs ob₁ _ { s with heap:=h₁,toks:=t₁ } as₁ _ hA (hk.2 rfl) R₁ fun b h₂ t₂ ob₂ as₂ hk₂ R₂ kp₂ ex₂ => ?_)
  cases b with
  | true => exact hQ _ h₂ t₂ ob₂ as₂ hk₂ R₂ (kp.trans kp₂ ex.live) (ex.trans kp ex₂)
  | false => exact wpAny_allTrue_Or_nil (hQ _ h₂ t₂ ob₂ as₂ hk₂ R₂ (kp.trans kp₂ ex.live) (ex.trans kp ex₂))
theorem E.or {x y:Expr} {pos:Pos} {Tx Ty:TE} (hx:E W c x Tx) (hy:E W c y Ty) :
  E W c (.BoolOp .Or [x,y] pos) (fun vs ob k => Tx vs ob fun a ob' => ∃ b,a = .bool b ∧ (b = true → k (.bool true) ob') ∧ (b = false → Ty vs ob' k)):=by
 intro A hid vs ob k s as Q hA ht R hQ
 refine wpAny_Or2 (hx A hid vs ob _ s as _ hA ht R fun v h₁ t₁ a ob₁ as₁ ⟨b,e,hk⟩ R₁ hv kp ex => ?_)
 subst e
 refine TV.boolE (show TV _ (.bool b) v from hv) (wpAny_truthy_bool ?_)
 cases b with
 | true => exact hQ _ h₁ t₁ _ ob₁ as₁ (hk.1 rfl) R₁ (TV.bool true) kp ex
 | false => exact hy.then hA (hk.2 rfl) R₁ kp ex fun v h₂ t₂ a ob₂ as₂ hk₂ R₂ hv₂ _ _ kp' ex' => hQ _ h₂ t₂ a ob₂ as₂ hk₂ R₂ hv₂ kp' ex'
theorem E.ifexp {t b o:Expr} {pos:Pos} {T:TB} {Tb To:TE} (ht:Is W c t T) (hb:E W c b Tb) (ho:E W c o To) :
  E W c (.IfExp t b o pos) (fun vs ob k => T vs ob fun b ob' => (b = true → Tb vs ob' k) ∧ (b = false → To vs ob' k)):=by
 intro A hid vs ob k s as Q hA hT R hQ
 refine wpAny_IfExp (ht A hid vs ob _ s as _ hA hT R fun b h₁ t₁ ob₁ as₁ hk R₁ kp ex => ?_)
 cases b with
 | true => exact hb.then hA (hk.1 rfl) R₁ kp ex fun v h₂ t₂ a ob₂ as₂ hk₂ R₂ hv₂ _ _ kp' ex' => hQ _ h₂ t₂ a ob₂ as₂ hk₂ R₂ hv₂ kp' ex'
 | false => exact ho.then hA (hk.2 rfl) R₁ kp ex fun v h₂ t₂ a ob₂ as₂ hk₂ R₂ hv₂ _ _ kp' ex' => hQ _ h₂ t₂ a ob₂ as₂ hk₂ R₂ hv₂ kp' ex'
theorem E.neg {x:Expr} {pos:Pos} {T:TE} (h:E W c x T):E W c (.UnaryOp .USub x pos) (fun vs ob k => T vs ob fun a ob' => ∃ i,a = .int i ∧ k (.int (-i)) ob'):=by
 intro A hid vs ob k s as Q hA hT R hQ
 refine wpAny_UnaryOp (h A hid vs ob _ s as _ hA hT R fun v h₁ t₁ a ob₁ as₁ ⟨i,e,hk⟩ R₁ hv kp ex => ?_)
 subst e
 exact TV.intE (show TV _ (.int i) v from hv) fun _ => P.neg_int (hQ _ h₁ _ _ ob₁ as₁ hk R₁ (TV.int ..) kp ex)
theorem E.inv {x:Expr} {pos:Pos} {T:TE} (h:E W c x T):E W c (.UnaryOp .Invert x pos) (fun vs ob k => T vs ob fun a ob' => ∃ i,a = .int i ∧ k (.int (Builtin.bitNot i)) ob'):=by
 intro A hid vs ob k s as Q hA hT R hQ
 refine wpAny_UnaryOp (h A hid vs ob _ s as _ hA hT R fun v h₁ t₁ a ob₁ as₁ ⟨i,e,hk⟩ R₁ hv kp ex => ?_)
 subst e
 exact TV.intE (show TV _ (.int i) v from hv) fun _ => invert_int (hQ _ h₁ _ _ ob₁ as₁ hk R₁ (TV.int ..) kp ex)
end
section
set_option backward.match.sparseCases false
variable {W:Wd} {c:Cx} {hid:List Addr}
noncomputable abbrev TEs:=VS → OB → (List AV → OB → Prop) → Prop
noncomputable def Es (W:Wd) (c:Cx) (es:List Expr) (T:TEs):Prop :=
 ∀ (A:Around) (hid:List Addr) (vs:VS) (ob:OB) (k:List AV → OB → Prop) (s:Shared) (as:AS) (pos:Pos) (Q:List Value → Shared → Prop),
  OkA c.d A → T vs ob k → Rel W c hid vs ob as s.heap →
  (∀ (us:List Value) (h':Heap) (tk:Nat) (avs:List AV) (ob':OB) (as':AS),k avs ob' → Rel W c hid vs ob' as' h' → VVs c.isclo (Gh W h' (c.av hid as')) as' avs us → Kp W (live as) s.heap h' → Ex s.heap as as' → Q us { s with heap:=h',toks:=tk }) →
  wpAny (model W.prog W.w) A (spliced (backTo pos (starEach es c.env))) Q (fun _ _ => False) s
theorem Es.nil:Es W c [] (fun _ ob k => k [] ob):=fun _ _ _ _ _ s as _ _ _ hk R hQ => wpAny_items_nil (hQ _ s.heap s.toks _ _ as hk R .nil .refl .refl)
theorem Es.cons {e:Expr} {es:List Expr} {T:TE} {Ts:TEs} (h:E W c e T) (hs:Es W c es Ts) (he:starEach (e :: es) c.env = (false,eval e c.env) :: starEach es c.env) :
  Es W c (e :: es) (fun vs ob k => T vs ob fun a ob₁ => Ts vs ob₁ fun as ob₂ => k (a :: as) ob₂):=by
 intro A hid vs ob k s as pos Q hA ht R hQ
 refine wpAny_items_cons (h A hid vs ob _ s as _ hA ht R fun v h₁ t₁ a ob₁ as₁ hk R₁ hv kp ex => ?_) he
 refine hs A hid vs ob₁ _ { s with heap:=h₁,toks:=t₁ } as₁ pos _ hA hk R₁ fun us h₂ t₂ avs ob₂ as₂ hk₂ R₂ hvs kp₂ ex₂ => ?_
 exact hQ _ h₂ t₂ _ ob₂ as₂ hk₂ R₂ (.cons (hv.step kp₂ (fun a ha => mem_av_live ha) ex₂) hvs) (kp.trans kp₂ ex.live) (ex.trans kp ex₂)
theorem E.tup {es:List Expr} {kk:Nat} {pos:Pos} {T:TEs} (h:Es W c es T):E W c (.Tuple es kk pos) (fun vs ob k => T vs ob fun as ob' => trees as = true ∧ as.length ≤ sizeLine ∧ k (.tup as) ob'):=by
 intro A hid vs ob k s as Q hA ht R hQ
 refine wpAny_Tuple (h A hid vs ob _ s as pos _ hA ht R fun us h₁ t₁ avs ob₁ as₁ ⟨h1,h2,hk⟩ R₁ hvs kp ex => ?_)
 have t:=hvs.tvs h1
 refine ⟨by rw [← t.length]; exact h2,?_⟩
 exact hQ _ _ t₁ _ ob₁ as₁ hk (R₁.grow (push_grow _ _)) (VV.of (TV.newTup (n:=0) R₁.base t)) (kp.trans (Kp.grow (push_grow _ _) []) fun _ ha => nomatch ha) ex
theorem E.lst {es:List Expr} {pos:Pos} {T:TEs} (h:Es W c es T):E W c (.List es pos) (fun vs ob k => T vs ob fun as ob' => trees as = true ∧ as.length ≤ sizeLine ∧ k (.lst as) ob'):=by
 intro A hid vs ob k s as Q hA ht R hQ
 refine wpAny_List (h A hid vs ob _ s as pos _ hA ht R fun us h₁ t₁ avs ob₁ as₁ ⟨h1,h2,hk⟩ R₁ hvs kp ex => ?_)
 have t:=hvs.tvs h1
 refine ⟨by rw [← t.length]; exact h2,?_⟩
 exact hQ _ _ t₁ _ ob₁ as₁ hk (R₁.grow (push_grow _ _)) (VV.of (TV.newLst (n:=0) R₁.base t)) (kp.trans (Kp.grow (push_grow _ _) []) fun _ ha => nomatch ha) ex
theorem liveInj {as:AS} (nd:(live as).Nodup) {i k:Nat} {p q:Own} {l:Addr} (e:as[i]? = some p) (hp:p.2.2 = true) (hl:l = p.1 ∨ l ∈ p.2.1) (hk:as[k]? = some q) (hq:q.2.2 = true) (hl':l = q.1 ∨ l ∈ q.2.1):i = k:=by
 induction as generalizing i k with
 | nil => simp at e
 | cons r as ih =>
  have nd':(liveOf r ++ live as).Nodup:=nd
  have tl:(live as).Nodup:=(List.nodup_append.mp nd').2.1
  have no:∀ {j:Nat} {x y:Own},as[j]? = some x → x.2.2 = true → (l = x.1 ∨ l ∈ x.2.1) → y = r → y.2.2 = true → (l = y.1 ∨ l ∈ y.2.1) → False:=fun ex hx hlx ey hy hly => by
   subst ey
   refine (List.nodup_append.mp nd').2.2 l ?_ l (mem_live_of ex hx hlx) rfl
   unfold liveOf
   rw [if_pos hy]
   exact List.mem_cons.mpr hly
  cases i with
  | zero =>
   cases k with
   | zero => rfl
   | succ k =>
    simp at e hk
    exact (no hk hq hl' e.symm hp hl).elim
  | succ i =>
   cases k with
   | zero =>
    simp at e hk
    exact (no e hp hl hk.symm hq hl').elim
   | succ k =>
    simp at e hk
    rw [ih tl e hk]
theorem size_none (h:Heap):h.get? h.objs.size = Option.none:=by
 cases e:h.get? h.objs.size with
 | none => rfl
 | some o => exact absurd (Heap.lt_size e) (Nat.lt_irrefl _)
theorem live_snoc {as:AS} {a:Addr}:live (as ++ [(a,[],true)]) = live as ++ [a]:=by rw [live_append]; rfl
theorem Rel.newAO {vs:VS} {ob as h} (R:Rel W c hid vs ob as h) {o:Obj} (hf:o.isFreed = false) (ao:AO)
  (hao:Kp W (live as) h (h.push o) → Ex h as (as ++ [(h.objs.size,[],true)]) → (h.push o).get? h.objs.size = some o → AOis W (c.av hid (as ++ [(h.objs.size,[],true)])) (as ++ [(h.objs.size,[],true)]) (h.push o) ao (h.objs.size,[],true)) :
  Rel W c hid vs (ob ++ [ao]) (as ++ [(h.objs.size,[],true)]) (h.push o) ∧ Ex h as (as ++ [(h.objs.size,[],true)]) ∧ Kp W (live as) h (h.push o):=by
 have g:∀ b o',h.get? b = some o' → (h.push o).get? b = some o':=push_grow _ _
 have ex:Ex h as (as ++ [(h.objs.size,[],true)]):=Ex.app fun a ha => by
  have:a = h.objs.size:=List.mem_singleton.mp (show a ∈ [h.objs.size] from ha)
  rw [this]; exact size_none h
 have kp:Kp W (live as) h (h.push o):=Kp.grow g _
 have hin:(h.push o).get? h.objs.size = some o:=Heap.get?_push_size _ hf
 refine ⟨⟨R.ok,R.base.step (fun b o _ e => g b o e) kp.2 fun a ha => ?_,?_,R.varsStep kp ex,?_,?_⟩,ex,kp⟩
 ·rcases List.mem_append.mp ha with q | q
  ·exact .inl (mem_av_oh q)
  ·rw [live_snoc] at q
   rcases List.mem_append.mp q with q | q
   ·exact .inl (mem_av_live q)
   ·rw [List.mem_singleton.mp q]; exact .inr ⟨size_none h,by rw [hin]; rfl⟩
 ·show (c.own ++ hid ++ live (as ++ [(h.objs.size,[],true)])).Nodup
  rw [live_snoc,← List.append_assoc,List.nodup_append]
  refine ⟨R.nodup,by simp,fun a ha b hb e => ?_⟩
  rw [List.mem_singleton.mp hb] at e
  have:=(R.base.dis a ha).2.1
  rw [e,size_none] at this; cases this
 ·rw [List.length_append,List.length_append,R.objs.1]; rfl
 ·intro i o' e
  by_cases hi:i < ob.length
  ·rw [List.getElem?_append_left hi] at e
   exact R.objs.kp (c':=c) (hid':=hid) (l:=[]) (Kp.grow g _) (fun _ ha => nomatch ha) (fun _ _ ha => nomatch ha) (fun a ha => (R.base.dis a (mem_av_live ha)).2.2) ex (fun i p e => by
    obtain ⟨hl,_⟩:=List.getElem?_eq_some_iff.mp e
    rw [List.getElem?_append_left hl]; exact e) (fun _ ha => .inl (mem_av_oh ha)) i o' e
  ·have hl:=R.objs.1
   rw [List.getElem?_append_right (Nat.le_of_not_lt hi)] at e
   have h0:i - ob.length = 0:=by
    cases q:i - ob.length with
    | zero => rfl
    | succ j => rw [q] at e; simp at e
   rw [h0] at e
   cases e
   have hi':i = as.length:=by lia
   subst hi'
   exact ⟨(h.objs.size,[],true),by simp,hao kp ex hin⟩
theorem Rel.newG {vs:VS} {ob as h h'} (R:Rel W c hid vs ob as h) {x:Addr} {L:List Addr} (g:∀ b o',h.get? b = some o' → h'.get? b = some o') (ao:AO) (hn:∀ a ∈ x :: L,h.get? a = Option.none ∧ (h'.get? a).isSome = true) (hnd:(x :: L).Nodup)
  (hao:Kp W (live as) h h' → Ex h as (as ++ [(x,L,true)]) → AOis W (c.av hid (as ++ [(x,L,true)])) (as ++ [(x,L,true)]) h' ao (x,L,true)) :
  Rel W c hid vs (ob ++ [ao]) (as ++ [(x,L,true)]) h' ∧ Ex h as (as ++ [(x,L,true)]) ∧ Kp W (live as) h h':=by
 have e1:live [(x,L,true)] = x :: L:=by
  unfold live liveOf
  simp
 have ex:Ex h as (as ++ [(x,L,true)]):=Ex.app fun a ha => (hn a (e1 ▸ ha)).1
 have kp:Kp W (live as) h h':=Kp.grow g _
 refine ⟨⟨R.ok,R.base.step (fun b o _ e => g b o e) kp.2 fun a ha => ?_,?_,R.varsStep kp ex,?_,?_⟩,ex,kp⟩
 ·rcases List.mem_append.mp ha with q | q
  ·exact .inl (mem_av_oh q)
  ·rw [live_append,e1] at q
   rcases List.mem_append.mp q with q | q
   ·exact .inl (mem_av_live q)
   ·exact .inr (hn a q)
 ·show (c.own ++ hid ++ live (as ++ [(x,L,true)])).Nodup
  rw [live_append,e1,← List.append_assoc,List.nodup_append]
  refine ⟨R.nodup,hnd,fun a ha b hb e => ?_⟩
  have:=(R.base.dis a ha).2.1
  rw [e,(hn b hb).1] at this; cases this
 ·rw [List.length_append,List.length_append,R.objs.1]; rfl
 ·intro i o' e
  by_cases hi:i < ob.length
  ·rw [List.getElem?_append_left hi] at e
   exact R.objs.kp (c':=c) (hid':=hid) (l:=[]) (Kp.grow g _) (fun _ ha => nomatch ha) (fun _ _ ha => nomatch ha) (fun a ha => (R.base.dis a (mem_av_live ha)).2.2) ex (fun i p e => by
    obtain ⟨hl,_⟩:=List.getElem?_eq_some_iff.mp e
    rw [List.getElem?_append_left hl]; exact e) (fun _ ha => .inl (mem_av_oh ha)) i o' e
  ·have hl:=R.objs.1
   rw [List.getElem?_append_right (Nat.le_of_not_lt hi)] at e
   have h0:i - ob.length = 0:=by
    cases q:i - ob.length with
    | zero => rfl
    | succ j => rw [q] at e; simp at e
   rw [h0] at e
   cases e
   have hi':i = as.length:=by lia
   subst hi'
   exact ⟨(x,L,true),by simp,hao kp ex⟩
theorem Rel.newObj {vs:VS} {ob as h} (R:Rel W c hid vs ob as h) {xs us n} (t:TVs (Gh W h (c.av hid as)) xs us) :
  Rel W c hid vs (ob ++ [.list xs]) (as ++ [(h.objs.size,[],true)]) (h.push (lstO us n)) ∧ Ex h as (as ++ [(h.objs.size,[],true)]) ∧ Kp W (live as) h (h.push (lstO us n)) :=
 R.newAO rfl _ fun kp ex hin => ⟨us,n,rfl,hin,t.kp kp (fun a ha => .inl (mem_av_live ha)) ex.av⟩
theorem Rel.putG {vs:VS} {ob as as' h h'} (R:Rel W c hid vs ob as h) {k:Nat} {p:Own} {L:List Addr} {ao:AO} (hk:as[k]? = some p) (hb:p.2.2 = true) (hs:∀ b o,b ≠ p.1 → b ∉ p.2.1 → h.get? b = some o → h'.get? b = some o)
  (hi:∀ b,b = p.1 ∨ b ∈ p.2.1 → (h'.get? b).isSome = true) (has:as' = as.set k (p.1,L,true)) (hL:∀ a ∈ L,a ∈ p.2.1 ∨ (h.get? a = Option.none ∧ (h'.get? a).isSome = true)) (hnd:(c.av hid as').Nodup)
  (hao:Kp W (live as) h h' → Ex h as as' → (∀ x v,VV noC (Gh W h (c.av hid as)) as x v → VV noC (Gh W h' (c.av hid as')) as' x v) → (∀ xs vs,VVs noC (Gh W h (c.av hid as)) as xs vs → VVs noC (Gh W h' (c.av hid as')) as' xs vs) →
   (∀ xs vs,TVs (Gh W h (c.av hid as)) xs vs → TVs (Gh W h' (c.av hid as')) xs vs) → AOis W (c.av hid as') as' h' ao (p.1,L,true)) :
  Rel W c hid vs (ob.set k ao) as' h' ∧ Kp W (live as) h h' ∧ Ex h as as':=by
 have hm:∀ a,a = p.1 ∨ a ∈ p.2.1 → a ∈ live as:=fun a ha => mem_live_of hk hb ha
 obtain ⟨hkl,_⟩:=List.getElem?_eq_some_iff.mp hk
 have kp:Kp W (p.1 :: p.2.1) h h':=⟨fun b o hb _ e => hs b o (fun q => hb (q ▸ List.mem_cons_self ..)) (fun q => hb (List.mem_cons_of_mem _ q)) e,fun b e => by
  by_cases q:b = p.1 ∨ b ∈ p.2.1
  ·exact hi b q
  ·cases z:h.get? b with
   | none => (first | exact noO z e | exact noI z e | (rw [z] at e; cases e))
   | some o => rw [hs b o (fun y => q (.inl y)) (fun y => q (.inr y)) z]; rfl⟩
 have kl:Kp W (live as) h h':=kp.more fun a ha => .inl (hm a (List.mem_cons.mp ha))
 have ex:Ex h as as':=by
  subst has
  refine ⟨fun i a b e => ?_,fun a ha => ?_⟩
  ·rw [List.getElem?_set]
   by_cases q:k = i
   ·subst q
    rw [if_pos rfl,if_pos hkl]
    rw [hk] at e
    cases e
    exact ⟨_,rfl⟩
   ·rw [if_neg q]; exact ⟨b,e⟩
  ·obtain ⟨q,hq,hb',ha'⟩:=mem_live.mp ha
   rcases List.mem_or_eq_of_mem_set hq with z | z
   ·exact .inl (mem_live.mpr ⟨q,z,hb',ha'⟩)
   ·subst z
    rcases ha' with z | z
    ·exact .inl (hm a (.inl z))
    ·rcases hL a z with y | y
     ·exact .inl (hm a (.inr y))
     ·exact .inr y.1
 have hav:∀ b ∈ live as,b ∈ c.av hid as:=fun b hb => mem_av_live hb
 have up:∀ a o,Gh W h (c.av hid as) a o → Gh W h' (c.av hid as') a o:=fun a o ⟨e,h1,h2⟩ => ⟨kl.1 a o (fun q => h1 (mem_av_live q)) h2 e,fun q => (ex.av a q).elim h1 fun z => (by (first | exact noO z e | exact noI z e | (rw [z] at e; cases e))),h2⟩
 refine ⟨⟨R.ok,R.base.step (fun b o hb e => hs b o (fun q => hb (mem_av_live (hm b (.inl q)))) (fun q => hb (mem_av_live (hm b (.inr q)))) e) kp.2 fun b hb' => ?_,hnd,R.varsStep kl ex,?_,fun i o e => ?_⟩,kl,ex⟩
 ·rcases ex.av b hb' with z | z
  ·exact .inl z
  ·right
   refine ⟨z,?_⟩
   have old:b ∉ c.av hid as:=fun q => by have:=(R.base.dis b q).2.1; (first | exact noO z this | exact noI z this | (rw [z] at this; cases this))
   rcases List.mem_append.mp hb' with q | q
   ·exact absurd (mem_av_oh q) old
   ·obtain ⟨q,hq,hb'',ha'⟩:=mem_live.mp q
    rw [has] at hq
    rcases List.mem_or_eq_of_mem_set hq with y | y
    ·exact absurd (mem_av_live (mem_live.mpr ⟨q,y,hb'',ha'⟩)) old
    ·subst y
     rcases ha' with y | y
     ·exact absurd (mem_av_live (hm b (.inl y))) old
     ·rcases hL b y with x | x
      ·exact absurd (mem_av_live (hm b (.inr x))) old
      ·exact x.2
 ·rw [has,List.length_set,List.length_set]; exact R.objs.1
 ·rw [List.getElem?_set] at e
  by_cases q:k = i
  ·subst q
   rw [if_pos rfl] at e
   by_cases z:k < ob.length
   ·rw [if_pos z] at e
    cases e
    exact ⟨(p.1,L,true),by rw [has,List.getElem?_set,if_pos rfl,if_pos hkl],hao kl ex (fun x v t => t.step kl hav ex) (fun xs vs t => VVs.step kl hav ex t) fun xs vs t => t.mono up⟩
   ·rw [if_neg z] at e; cases e
  ·rw [if_neg q] at e
   obtain ⟨p',ea,r⟩:=R.objs.2 i o e
   refine ⟨p',by rw [has,List.getElem?_set,if_neg q]; exact ea,r.lift up (fun hb' a ha o' e' => ?_) fun t => VVs.step kl hav ex t⟩
   have nd:(live as).Nodup:=(List.nodup_append.mp R.nodup).2.1
   exact hs a o' (fun z => q (liveInj nd hk hb (.inl z) ea hb' ha)) (fun z => q (liveInj nd hk hb (.inr z) ea hb' ha)) e'
theorem set_self {α:Type} {l:List α} {k:Nat} {x:α} (h:l[k]? = some x):l.set k x = l:=by
 obtain ⟨hl,e⟩:=List.getElem?_eq_some_iff.mp h
 subst e
 exact List.set_getElem_self ..
theorem Rel.put {vs:VS} {ob as h h'} (R:Rel W c hid vs ob as h) {k:Nat} {p:Own} {ao:AO} (hk:as[k]? = some p) (hb:p.2.2 = true) (hs:∀ b o,b ≠ p.1 → b ∉ p.2.1 → h.get? b = some o → h'.get? b = some o)
  (hi:∀ b,b = p.1 ∨ b ∈ p.2.1 → (h'.get? b).isSome = true)
  (hao:Kp W (live as) h h' → (∀ x v,VV noC (Gh W h (c.av hid as)) as x v → VV noC (Gh W h' (c.av hid as)) as x v) → (∀ xs vs,VVs noC (Gh W h (c.av hid as)) as xs vs → VVs noC (Gh W h' (c.av hid as)) as xs vs) →
   (∀ xs vs,TVs (Gh W h (c.av hid as)) xs vs → TVs (Gh W h' (c.av hid as)) xs vs) → AOis W (c.av hid as) as h' ao p) :
  Rel W c hid vs (ob.set k ao) as h' ∧ Kp W (live as) h h':=by
 obtain ⟨a,L,b⟩:=p
 cases hb
 have e:as = as.set k (a,L,true):=(set_self hk).symm
 obtain ⟨r1,r2,_⟩:=R.putG (L:=L) hk rfl hs hi e (fun a ha => .inl ha) R.nodup fun kl _ f g i => hao kl f g i
 exact ⟨r1,r2⟩
theorem live_set {as:AS} {k:Nat} {p:Own} (hk:as[k]? = some p):∀ b ∈ live (as.set k (p.1,p.2.1,false)),b ∈ live as:=by
 intro b hb
 obtain ⟨q,hq,h1,h2⟩:=mem_live.mp hb
 rcases List.mem_or_eq_of_mem_set hq with z | z
 ·exact mem_live.mpr ⟨q,z,h1,h2⟩
 ·subst z; cases h1
theorem live_set_not {as:AS} (nd:(live as).Nodup) {k:Nat} {p:Own} (hk:as[k]? = some p) (hb:p.2.2 = true) {a:Addr} (ha:a = p.1 ∨ a ∈ p.2.1):a ∉ live (as.set k (p.1,p.2.1,false)):=by
 intro hm
 obtain ⟨q,hq,h1,h2⟩:=mem_live.mp hm
 obtain ⟨i,hi⟩:=List.getElem?_of_mem hq
 rw [List.getElem?_set] at hi
 by_cases z:k = i
 ·subst z
  rw [if_pos rfl] at hi
  by_cases y:k < as.length
  ·rw [if_pos y] at hi; cases hi; cases h1
  ·rw [if_neg y] at hi; cases hi
 ·rw [if_neg z] at hi
  exact z (liveInj nd hk hb ha hi h1 h2)
theorem live_set_sub {as:AS} {k:Nat} {a:Addr} {L:List Addr}:(live (as.set k (a,L,false))).Sublist (live as):=by
 unfold live
 induction as generalizing k with
 | nil => exact List.Sublist.refl _
 | cons p as ih =>
  cases k with
  | zero =>
   rw [List.set_cons_zero,List.flatMap_cons,List.flatMap_cons]
   exact List.sublist_append_right ..
  | succ k =>
   rw [List.set_cons_succ,List.flatMap_cons,List.flatMap_cons]
   exact List.Sublist.append (List.Sublist.refl _) ih
theorem Ex.frz {h:Heap} {as:AS} {k:Nat} {p:Own} (hk:as[k]? = some p):Ex h as (as.set k (p.1,p.2.1,false)):=by
 refine ⟨fun i a' b e => ?_,fun b hb => .inl (live_set hk b hb)⟩
 rw [List.getElem?_set]
 by_cases q:k = i
 ·subst q
  obtain ⟨hl,_⟩:=List.getElem?_eq_some_iff.mp e
  rw [if_pos rfl,if_pos hl]
  rw [hk] at e
  cases e
  exact ⟨_,rfl⟩
 ·rw [if_neg q]; exact ⟨b,e⟩
theorem Rel.freeze {vs:VS} {ob as h} (R:Rel W c hid vs ob as h) {k:Nat} {p:Own} {ao':AO} (hk:as[k]? = some p) (hb:p.2.2 = true)
  (hao:(∀ a,a = p.1 ∨ a ∈ p.2.1 → a ∉ c.av hid (as.set k (p.1,p.2.1,false)) ∧ a ∉ W.tP) → (∀ a' o,Gh W h (c.av hid as) a' o → Gh W h (c.av hid (as.set k (p.1,p.2.1,false))) a' o) → AOis W (c.av hid (as.set k (p.1,p.2.1,false))) (as.set k (p.1,p.2.1,false)) h ao' (p.1,p.2.1,false)) :
  Rel W c hid vs (ob.set k ao') (as.set k (p.1,p.2.1,false)) h ∧ Ex h as (as.set k (p.1,p.2.1,false)) ∧ (∀ a' o,Gh W h (c.av hid as) a' o → Gh W h (c.av hid (as.set k (p.1,p.2.1,false))) a' o) ∧ ∀ a,a = p.1 ∨ a ∈ p.2.1 → a ∉ c.av hid (as.set k (p.1,p.2.1,false)) ∧ a ∉ W.tP:=by
 have hm:∀ a,a = p.1 ∨ a ∈ p.2.1 → a ∈ live as:=fun a ha => mem_live_of hk hb ha
 have ex:Ex h as (as.set k (p.1,p.2.1,false)):=Ex.frz hk
 have nd:(live as).Nodup:=(List.nodup_append.mp R.nodup).2.1
 have less:∀ b ∈ c.av hid (as.set k (p.1,p.2.1,false)),b ∈ c.av hid as:=fun b hb => by
  rcases List.mem_append.mp hb with q | q
  ·exact mem_av_oh q
  ·exact mem_av_live (live_set hk b q)
 have out:∀ a,a = p.1 ∨ a ∈ p.2.1 → a ∉ c.av hid (as.set k (p.1,p.2.1,false)) ∧ a ∉ W.tP:=fun a ha => ⟨fun hb' => by
  rcases List.mem_append.mp hb' with q | q
  ·exact oh_not_live R.nodup q (hm a ha)
  ·exact live_set_not nd hk hb ha q,(R.base.dis a (mem_av_live (hm a ha))).2.2⟩
 have up:∀ a' o,Gh W h (c.av hid as) a' o → Gh W h (c.av hid (as.set k (p.1,p.2.1,false))) a' o:=fun a' o ⟨e,h1,h2⟩ => ⟨e,fun z => h1 (less _ z),h2⟩
 refine ⟨⟨R.ok,R.base.less less,?_,R.varsStep .refl ex,by rw [List.length_set,List.length_set]; exact R.objs.1,fun i o e => ?_⟩,ex,up,out⟩
 ·exact List.Nodup.sublist (List.Sublist.append (List.Sublist.refl _) live_set_sub) R.nodup
 ·rw [List.getElem?_set] at e
  by_cases q:k = i
  ·subst q
   rw [if_pos rfl] at e
   by_cases z:k < ob.length
   ·rw [if_pos z] at e
    cases e
    exact ⟨(p.1,p.2.1,false),by rw [List.getElem?_set,if_pos rfl,if_pos (by rw [R.objs.1]; exact z)],hao out up⟩
   ·rw [if_neg z] at e; cases e
  ·rw [if_neg q] at e
   obtain ⟨p',ea,r⟩:=R.objs.2 i o e
   refine ⟨p',by rw [List.getElem?_set,if_neg q]; exact ea,r.lift up (fun _ _ _ _ e => e) fun t => VVs.kp (c':=c) (hid':=hid) (l:=[]) .refl (fun _ ha => nomatch ha) ex (fun _ ha => .inl (mem_av_oh ha)) t⟩
theorem E.mlst {es:List Expr} {pos:Pos} {T:TEs} (h:Es W c es T):E W c (.List es pos) (fun vs ob k => T vs ob fun as ob' => trees as = true ∧ as.length ≤ sizeLine ∧ k (.loc ob'.length) (ob' ++ [.list as])):=by
 intro A hid vs ob k s as Q hA ht R hQ
 refine wpAny_List (h A hid vs ob _ s as pos _ hA ht R fun us h₁ t₁ avs ob₁ as₁ ⟨h1,h2,hk⟩ R₁ hvs kp ex => ?_)
 have t:=hvs.tvs h1
 refine ⟨by rw [← t.length]; exact h2,?_⟩
 obtain ⟨R₂,ex₂,kp₂⟩:=R₁.newObj (n:=0) t
 exact hQ _ _ t₁ _ _ _ hk R₂ ⟨_,([],true),rfl,by rw [← R₁.objs.1]; simp⟩ (kp.trans kp₂ ex.live) (ex.trans kp ex₂)
noncomputable def AO.its?:AO → Option (List AV)
 | .list xs => some xs
 | .frz xs => some xs
 | _ => Option.none
noncomputable def rdL (ob:OB):AV → Option (List AV)
 | .lst xs => some xs
 | .loc k => ob[k]?.bind AO.its?
 | _ => Option.none
theorem rd_ok {ob:OB} {as:AS} {h:Heap} {av:List Addr} {a:AV} {v:Value} {xs:List AV} {C} (O:ObRel W av ob as h):VV C (Gh W h av) as a v → rdL ob a = some xs → ∃ l us n,v = .ref l ∧ h.get? l = some (lstO us n) ∧ TVs (Gh W h av) xs us:=by
 cases a with
 | lst ys =>
  intro hv e
  obtain ⟨l,us,n,e1,g,t⟩:=(show TV _ (.lst ys) v from hv).inv
  exact ⟨l,us,n,e1,g.1,Option.some.inj e ▸ t⟩
 | loc k =>
  intro ⟨l,b,hv,el⟩ e
  obtain ⟨o,q,e⟩:=bindS e
  obtain ⟨p,ea,r⟩:=O.2 k _ q
  obtain rfl:p = (l,b):=Option.some.inj (ea.symm.trans el)
  clear O ea el q
  revert r e
  cases o with
  | list ys =>
   intro e ⟨us,n,_,g,t⟩
   exact ⟨l,us,n,hv,g,Option.some.inj e ▸ t⟩
  | frz ys =>
   intro e r
   obtain ⟨l',us,n,e1,g,t⟩:=TV.inv r.2
   exact ⟨l,us,n,hv,(show l = l' from Value.ref.inj e1) ▸ g.1,Option.some.inj e ▸ t⟩
  | _ => exact noS
 | _ => exact fun _ => noS
noncomputable def getIx (xs:List AV) (i:Int):Option AV :=
 if -(2 ^ 62) ≤ i ∧ i < 2 ^ 62 then (if 0 ≤ i then xs[i.toNat]? else if -(xs.length:Int) ≤ i then xs[(i + xs.length).toNat]? else Option.none) else Option.none
noncomputable def subsF (ob:OB) (a:AV) (i:Int):Option AV :=
 match a with
 | .tup xs => getIx xs i
 | .str x => if fitsSsize i = true ∧ (Txt.charAt x i).isSome = true then some (.str (Txt.item x i)) else none
 | a => (rdL ob a).bind fun xs => getIx xs i
noncomputable def subs (ob:OB) (a:AV) (i:Int) (k:AV → Prop):Prop:=∃ z,subsF ob a i = some z ∧ k z
theorem subs_cases {ob:OB} {a:AV} {i:Int} {z:AV}:subsF ob a i = some z → (∃ xs,a = .tup xs ∧ getIx xs i = some z) ∨ (∃ x,a = .str x ∧ (fitsSsize i = true ∧ (Txt.charAt x i).isSome = true) ∧ AV.str (Txt.item x i) = z) ∨ ∃ xs,rdL ob a = some xs ∧ getIx xs i = some z:=by
 cases a with
 | tup xs => exact fun e => .inl ⟨xs,rfl,e⟩
 | str x => exact fun e => .inr (.inl ⟨x,rfl,ifS e⟩)
 | _ => first | exact noS | exact fun e => .inr (.inr (bindS e))
theorem getIx_arr {xs:List AV} {us:List Value} {i:Int} {x:AV} {G:GP} (t:TVs G xs us) (e:getIx xs i = some x) :
  ∃ u,TV G x u ∧ -(2 ^ 63) ≤ i ∧ i < 2 ^ 63 ∧ ((0 ≤ i ∧ us[i.toNat]? = some u) ∨ (i < 0 ∧ -(us.length:Int) ≤ i ∧ us[(i + us.length).toNat]? = some u)):=by
 unfold getIx at e
 split at e
 ·rename_i hb
  have hl:=t.length
  split at e
  ·rename_i h0
   obtain ⟨u,e1,t1⟩:=t.get e
   exact ⟨u,t1,by lia,by lia,.inl ⟨h0,e1⟩⟩
  ·rename_i h0
   split at e
   ·rename_i h1
    obtain ⟨u,e1,t1⟩:=t.get e
    exact ⟨u,t1,by lia,by lia,.inr ⟨by lia,by rw [← hl]; exact h1,by rw [← hl]; exact e1⟩⟩
   ·cases e
 ·cases e
theorem seqIx {n:Nat} {i:Int}:(0 ≤ i → i.toNat < n → seqIndex? i n = some i.toNat) ∧ (i < 0 → -(n:Int) ≤ i → seqIndex? i n = some (i + n).toNat):=by
 unfold seqIndex?
 constructor
 ·intro h0 h1
  have:(if i < 0 then i + (n:Int) else i) = i:=by rw [if_neg (by lia)]
  simp only [this]
  first
   | (rw [if_neg (by lia)]; done)
   | (simp; lia)
 ·intro h0 h1
  have:(if i < 0 then i + (n:Int) else i) = i + n:=by rw [if_pos h0]
  simp only [this]
  first
   | (rw [if_neg (by lia)]; done)
   | (simp; lia)
theorem E.sub {value slice:Expr} {pos:Pos} {Tv Ti:TE} (hv:E W c value Tv) (hi:E W c slice Ti) (hs:∀ o i,subscripted slice false o i = operate [o,i] (getItem o i)) :
  E W c (.Subscript value slice pos) (fun vs ob k => Tv vs ob fun a ob₁ => Ti vs ob₁ fun b ob₂ => ∃ i,b = .int i ∧ subs ob₂ a i fun x => k x ob₂):=by
 intro A hid vs ob k s as Q hA ht R hQ
 refine Subscript_ (hv A hid vs ob _ s as _ hA ht R fun va h₁ t₁ a ob₁ as₁ ht₁ R₁ hva kp₁ ex₁ => ?_)
 refine hi.then hA ht₁ R₁ kp₁ ex₁ fun vb h₂ t₂ b ob₂ as₂ ⟨i,e,x,e',hk⟩ R₂ hvb kp₂ ex₂ kp ex => ?_
 subst e
 have fin:∀ u tk,VV c.isclo (Gh W h₂ (c.av hid as₂)) as₂ x u → Q u { s with heap:=h₂,toks:=tk }:=fun u tk hu => hQ u h₂ tk x ob₂ as₂ hk R₂ hu kp ex
 have hva':=hva.step kp₂ (fun a ha => mem_av_live ha) ex₂
 clear hQ hva R₁ kp₁ ex₁ kp ex kp₂ ex₂ hk hi hv
 refine TV.intE (show TV _ (.int i) vb from hvb) fun ti => ?_
 rcases subs_cases e' with ⟨xs,rfl,e⟩ | ⟨y,rfl,hc,e⟩ | ⟨xs,e,e'⟩
 ·refine TV.tupE (show TV _ (.tup xs) va from hva') fun l us n g t => ?_
  obtain ⟨u,tu,b1,b2,q⟩:=getIx_arr t e
  have hT:IsTup h₂ l us.toArray:=⟨_,g.1,rfl,n,rfl⟩
  rcases q with ⟨h0,e1⟩ | ⟨h0,h1,e1⟩
  ·exact item_tupleT hT b1 b2 (seqIx.1 h0 (List.getElem?_eq_some_iff.mp e1).1) e1 (fin _ _ (VV.of tu)) (hs _ _)
  ·exact item_tupleT hT b1 b2 (seqIx.2 h0 h1) e1 (fin _ _ (VV.of tu)) (hs _ _)
 ·refine TV.strE (show TV _ (.str y) va from hva') fun t => ?_
  exact tail_any (T:="str") (typeIs_str _ _ _) F.slot_str_getitem.lookup (SB.getItem hc.1 hc.2 (fin _ _ (e ▸ TV.str ..))) (hs _ _)
 ·obtain ⟨l,us,n,rfl,g,t⟩:=rd_ok R₂.objs hva' e
  obtain ⟨u,tu,b1,b2,q⟩:=getIx_arr t e'
  have hL:h₂.IsList l us.toArray:=⟨_,g,rfl,n,rfl⟩
  refine tail_any (T:="list") ⟨_,g,rfl⟩ slot_list_getitem.lookup ?_ (hs _ _)
  rcases q with ⟨h0,e1⟩ | ⟨h0,h1,e1⟩
  ·exact wpAny_getItem_list (s:={ s with heap:=h₂,toks:=t₂ }) hL h0 b2 (by simpa using e1) (fin _ _ (VV.of tu))
  ·exact wpAny_getItem_list_neg (s:={ s with heap:=h₂,toks:=t₂ }) hL h0 (by simpa using h1) b1 (by simpa using e1) (fin _ _ (VV.of tu))
end
section
set_option backward.match.sparseCases false
variable {W:Wd} {c:Cx} {hid:List Addr}
theorem VV.mono {C} {G G':GP} (g:∀ a o,G a o → G' a o) {as:AS} {x v} (t:VV C G as x v):VV C G' as x v:=VV.imp t (fun _ _ b e => ⟨b,e⟩) (fun _ _ _ _ _ x y z => ⟨g _ _ x,g _ _ y,z⟩) g
theorem VVs.mono {C} {G G':GP} (g:∀ a o,G a o → G' a o) {as:AS} {xs vs} (t:VVs C G as xs vs):VVs C G' as xs vs:=t.imp fun _ _ _ a => a.mono g
theorem AOis.mono {av av':List Addr} {h h':Heap} {as:AS} {o:AO} {p} (up:∀ a o,Gh W h av a o → Gh W h' av' a o) (lv:p.2.2 = true → ∀ a,a = p.1 ∨ a ∈ p.2.1 → ∀ o,h.get? a = some o → h'.get? a = some o) (r:AOis W av as h o p):AOis W av' as h' o p :=
 r.lift up lv fun t => t.mono up
noncomputable abbrev TT:=AV → VS → OB → (VS → OB → Prop) → Prop
noncomputable def Tg (W:Wd) (c:Cx) (t:Expr) (T:TT):Prop :=
 ∀ (A:Around) (hid:List Addr) (vs:VS) (ob:OB) (k:VS → OB → Prop) (s:Shared) (as:AS) (Q:Unit → Shared → Prop) (x:AV) (v:Value),
  OkA c.d A → T x vs ob k → Rel W c hid vs ob as s.heap → VV c.isclo (Gh W s.heap (c.av hid as)) as x v →
  (∀ (h':Heap) (tk:Nat) (vs':VS) (ob':OB),k vs' ob' → Rel W c hid vs' ob' as h' → Kp W c.own s.heap h' → Q () { s with heap:=h',toks:=tk }) →
  wpAny (model W.prog W.w) A (assign t c.env v) Q (fun _ _ => False) s
theorem Tg.name {x:Str} {pos:Pos} {i:Nat} (hx:St W c x i):Tg W c (.Name x pos) (fun av vs ob k => k (setV vs i av) ob):=by
 intro A hid vs ob k s as Q x v hA hk R hv hQ
 exact wpAny_assign_Name (hx A hid vs ob s as _ x v R hv fun h' tk R' kp _ => hQ h' tk _ _ hk R' kp)
theorem Tg.pair {x y:Str} {px py pos:Pos} {kk:Nat} {i j:Nat} (hx:St W c x i) (hy:St W c y j)
  (ha:assignEach [.Name x px,.Name y py] c.env = [(false,assign (.Name x px) c.env),(false,assign (.Name y py) c.env)]) :
  Tg W c (.Tuple [.Name x px,.Name y py] kk pos) (fun av vs ob k => ∃ a b,av = .tup [a,b] ∧ k (setV (setV vs i a) j b) ob):=by
 intro A hid vs ob k s as Q av v hA hk0 R hv hQ
 obtain ⟨a,b,e,hk⟩:=hk0
 subst e
 have t:TV _ (.tup [a,b]) v:=hv
 cases t
 rename_i us l n g t
 cases t
 rename_i u us tu t
 cases t
 rename_i u' us tu' t
 cases t
 refine wpAny_assign_Tuple (items:=#[u,u']) hA.1 ⟨_,g.1,rfl,n,rfl⟩ (by rw [ha]; rfl) (by rw [ha]; rfl) fun h₁ he => ?_
 rw [ha]
 have gr:∀ b o,s.heap.get? b = some o → h₁.get? b = some o:=fun b o e => he b o (Nat.ne_of_lt (Heap.lt_size e)) e
 have R₁:=R.grow gr
 show wpAny _ A (do holding [u'] (assign (.Name x px) c.env u); assignInOrder [assign (.Name y py) c.env] [u']) _ _ _
 refine wpAny_bind (wpAny_holding (wpAny_assign_Name (hx A hid vs ob { s with heap:=h₁ } as _ a u R₁ (VV.of (tu.grow gr)) fun h₂ t₂ R₂ kp₂ _ => ?_)))
 show wpAny _ A (do holding [] (assign (.Name y py) c.env u'); assignInOrder [] []) _ _ _
 have tu2:TV (Gh W h₂ (c.av hid as)) b u':=(tu'.grow gr).kp kp₂ (fun a ha => .inl (mem_av_own ha)) (fun a ha => .inl ha)
 refine wpAny_bind (wpAny_holding (wpAny_assign_Name (hy A hid _ ob { s with heap:=h₂,toks:=t₂ } as _ b u' R₂ (VV.of tu2) fun h₃ t₃ R₃ kp₃ _ => ?_)))
 exact wpAny_pure (hQ h₃ t₃ _ _ hk R₃ (((Kp.grow gr c.own).trans kp₂ fun a ha => .inl ha).trans kp₃ fun a ha => .inl ha))
noncomputable abbrev TI:=VS → OB → (List AV → OB → Prop) → Prop
noncomputable def It (W:Wd) (c:Cx) (e:Expr) (T:TI):Prop :=
 ∀ (A:Around) (hid:List Addr) (vs:VS) (ob:OB) (k:List AV → OB → Prop) (s:Shared) (as:AS) (Q:Value → Shared → Prop),
  OkA c.d A → T vs ob k → Rel W c hid vs ob as s.heap →
  (∀ (I:Addr) (h':Heap) (tk:Nat) (items:List AV) (ob':OB) (as':AS) (fp:List Addr) (P:Nat → Value → Prop) (St:Nat → Heap → Prop),
   k items ob' → Rel W c (I :: hid) vs ob' as' h' → s.heap.get? I = Option.none → Walks W.prog W.w A I fp [I] items.length P St → St 0 h' → items.length ≤ sizeLine →
   (∀ b ∈ fp,b ≠ I → b ∉ c.av (I :: hid) as' ∧ b ∉ W.tP ∧ (h'.get? b).isSome = true) → (∀ j x v,items[j]? = some x → P j v → ∀ h₂ as₂,Kp W (c.own ++ I :: live as') h' h₂ → Ex h' as' as₂ → TV (Gh W h₂ (c.av (I :: hid) as₂)) x v) →
   (∀ (i:Nat) (elts:List Expr) (x1:Nat) (pos:Pos) (v:Value) (s₂:Shared) (Q₂:Unit → Shared → Prop),St i s₂.heap → Q₂ () s₂ → wpAny (model W.prog W.w) A (letOwnedTupleGo (.Tuple elts x1 pos) (.ref I) v) Q₂ (fun _ _ => False) s₂) →
   (∀ i h,St i h → (h.get? I).isSome = true) → Kp W (live as) s.heap h' → Ex s.heap as as' → Q (.ref I) { s with heap:=h',toks:=tk }) →
  wpAny (model W.prog W.w) A (eval e c.env) (fun x s₁ => wpAny (model W.prog W.w) A (pyIter x) Q (fun _ _ => False) s₁) (fun _ _ => False) s
noncomputable def loopK (T:TS) (k:AF → VS → OB → Prop):AF → VS → OB → Prop
 | .next,vs,ob => T vs ob k
 | .cont,vs,ob => T vs ob k
 | .brk,vs,ob => k .next vs ob
 | .ret v,vs,ob => k (.ret v) vs ob
noncomputable def forT (Ta:TT) (Tb To:TS):List AV → TS
 | [] => To
 | x :: xs => fun vs ob k => Ta x vs ob fun vs₁ ob₁ => Tb vs₁ ob₁ (loopK (forT Ta Tb To xs) k)
theorem wpF {α:Type} {M:Model} {A:Around} {t:Sem α} {Q Q':α → Shared → Prop} {E':Value → Shared → Prop} {s:Shared} (h:wpAny M A t Q (fun _ _ => False) s) (hQ:∀ a s,Q a s → Q' a s):wpAny M A t Q' E' s :=
 wpAny_mono h hQ fun _ _ f => f.elim
theorem wpE {α:Type} {M:Model} {A:Around} {t:Sem α} {Q:α → Shared → Prop} {E':Value → Shared → Prop} {s:Shared} (h:wpAny M A t Q (fun _ _ => False) s):wpAny M A t Q E' s :=
 wpAny_mono h (fun _ _ h => h) fun _ _ f => f.elim
theorem ownedAny {M:Model} {A:Around} {target:Expr} {it v:Value} {Q:Unit → Shared → Prop} {s:Shared} (htn:(∃ x p,target = .Name x p) ∨ ∃ es k p,target = .Tuple es k p)
  (h1:∀ es k p,Q () s → wpAny M A (letOwnedTupleGo (.Tuple es k p) it v) Q (fun _ _ => False) s) (h:Q () s):wpAny M A (letOwnedTupleGo target it v) Q (fun _ _ => False) s:=by
 rcases htn with ⟨x,p,rfl⟩ | ⟨es,k,p,rfl⟩
 ·exact wpAny_pure h
 ·exact h1 es k p h
theorem av_hide {as:AS} {I:Addr}:∀ a ∈ c.av hid as,a ∈ c.av (I :: hid) as:=fun a ha => by
 rcases List.mem_append.mp ha with q | q
 ·rcases List.mem_append.mp q with q | q
  ·exact mem_av_own q
  ·exact mem_av_hid (List.mem_cons_of_mem _ q)
 ·exact mem_av_live q
theorem VV.unhide {C} {as:AS} {h:Heap} {I:Addr} {x v} (t:VV C (Gh W h (c.av (I :: hid) as)) as x v):VV C (Gh W h (c.av hid as)) as x v :=
 t.mono fun a o ⟨e,h1,h2⟩ => ⟨e,fun hm => h1 (av_hide a hm),h2⟩
theorem Rel.unhide {vs:VS} {ob as h} {I:Addr} (R:Rel W c (I :: hid) vs ob as h) (hc:∀ x cc,c.env.cells.lookup x = some cc → cc ∈ c.own ++ hid):Rel W c hid vs ob as h:=by
 have sub:∀ a ∈ c.av hid as,a ∈ c.av (I :: hid) as:=fun a ha => by
  rcases List.mem_append.mp ha with q | q
  ·rcases List.mem_append.mp q with q | q
   ·exact mem_av_own q
   ·exact mem_av_hid (List.mem_cons_of_mem _ q)
  ·exact mem_av_live q
 have up:∀ x v,VV c.isclo (Gh W h (c.av (I :: hid) as)) as x v → VV c.isclo (Gh W h (c.av hid as)) as x v:=fun x v t => t.unhide
 refine ⟨⟨R.ok.kind,R.ok.glob,R.ok.blt,R.ok.loc,hc,R.ok.cinj,R.ok.names⟩,R.base.less sub,?_,?_,R.objs.1,?_⟩
 ·have:=R.nodup
  unfold Cx.av at this ⊢
  refine List.Sublist.nodup ?_ this
  exact List.Sublist.append (List.Sublist.append (List.Sublist.refl _) (List.sublist_cons_self _ _)) (List.Sublist.refl _)
 ·obtain ⟨hc,m,hm,hv⟩:=R.vars
  exact ⟨hc,m,hm,fun i x k av e1 e2 => (hv i x k av e1 e2).imp fun v q => ⟨q.1,up _ _ q.2⟩⟩
 ·intro i o e
  obtain ⟨a,ea,r⟩:=R.objs.2 i o e
  exact ⟨a,ea,r.mono (fun a o ⟨e,h1,h2⟩ => ⟨e,fun hm => h1 (sub a hm),h2⟩) fun _ _ _ _ e => e⟩
theorem Rel.unhideStep {vs:VS} {ob as h h'} {I:Addr} (R:Rel W c (I :: hid) vs ob as h) (hc:∀ x cc,c.env.cells.lookup x = some cc → cc ∈ c.own ++ hid) (hcI:∀ x cc,c.env.cells.lookup x = some cc → cc ≠ I)
  (g:∀ b o,b ≠ I → h.get? b = some o → h'.get? b = some o):Rel W c hid vs ob as h':=by
 have notI:∀ a ∈ c.av hid as,a ≠ I:=fun a ha e => by
  have hn:=R.nodup
  rcases List.mem_append.mp ha with q | q
  ·rcases List.mem_append.mp q with q | q
   ·exact own_not_hid hn q (e ▸ List.mem_cons_self ..)
   ·unfold Cx.av at hn
    have:=(List.nodup_append.mp (List.nodup_append.mp hn).1).2.1
    exact (List.nodup_cons.mp this).1 (e ▸ q)
  ·exact oh_not_live hn (List.mem_append_right _ (List.mem_cons_self ..)) (e ▸ q)
 have R₁:=R.unhide hc
 have up:∀ a o,Gh W h (c.av (I :: hid) as) a o → Gh W h' (c.av hid as) a o:=fun a o ⟨e,h1,h2⟩ => ⟨g a o (fun q => h1 (mem_av_hid (q ▸ List.mem_cons_self ..))) e,fun hm => h1 (av_hide a hm),h2⟩
 have hI:I ∈ c.av (I :: hid) as:=mem_av_hid (List.mem_cons_self ..)
 refine ⟨R₁.ok,R.base.drop (D:=[I]) (fun a ha => av_hide a ha) (fun a ha => List.mem_singleton.mp ha ▸ hI) (fun a ha hm => notI a hm (List.mem_singleton.mp ha)) (fun b o hb => g b o fun q => hb (q ▸ List.mem_singleton_self _)),R₁.nodup,R.vars.at (fun x cc e o => g cc o (hcI x cc e)) (fun o => g _ o (notI _ (mem_av_own R.ok.loc))) (fun x v t => t.mono up),R₁.objs.1,?_⟩
 ·intro i o e
  obtain ⟨a,ea,r⟩:=R.objs.2 i o e
  exact ⟨a,ea,r.mono up fun hb a' ha o' => g _ _ (notI _ (mem_av_live (mem_live_of ea hb ha)))⟩
theorem Rel.hide {vs:VS} {ob as h h'} {I:Addr} (R:Rel W c hid vs ob as h) (g:∀ b o,h.get? b = some o → h'.get? b = some o) (hI:h.get? I = Option.none) (hI':(h'.get? I).isSome = true):Rel W c (I :: hid) vs ob as h':=by
 have R₁:=R.grow g
 have mem:∀ a,a ∈ c.av (I :: hid) as → a ∈ c.av hid as ∨ a = I:=fun a ha => by
  rcases List.mem_append.mp ha with q | q
  ·rcases List.mem_append.mp q with q | q
   ·exact .inl (mem_av_own q)
   ·rcases List.mem_cons.mp q with q | q
    ·exact .inr q
    ·exact .inl (mem_av_hid q)
  ·exact .inl (mem_av_live q)
 have notI:∀ a ∈ c.av hid as,a ≠ I:=fun a ha e => by have:=(R.base.dis a ha).2.1; rw [e,hI] at this; cases this
 have kp:Kp W [] h h':=Kp.grow g _
 have hs:∀ a ∈ c.own ++ (I :: hid),a ∈ c.av hid as ∨ h.get? a = Option.none:=fun a ha => by
  rcases List.mem_append.mp ha with q | q
  ·exact .inl (mem_av_own q)
  ·rcases List.mem_cons.mp q with q | q
   ·exact .inr (q ▸ hI)
   ·exact .inl (mem_av_hid q)
 refine ⟨⟨R.ok.kind,R.ok.glob,R.ok.blt,R.ok.loc,fun x cc e => ?_,R.ok.cinj,R.ok.names⟩,R.base.step (fun b o _ e => g b o e) kp.2 fun a ha => ?_,?_,?_,R.objs.1,?_⟩
 ·rcases List.mem_append.mp (R.ok.cells x cc e) with q | q
  ·exact List.mem_append_left _ q
  ·exact List.mem_append_right _ (List.mem_cons_of_mem _ q)
 ·exact (mem a ha).imp id fun (q:a = I) => ⟨by rw [q]; exact hI,by rw [q]; exact hI'⟩
 ·have:=R.nodup
  unfold Cx.av at this ⊢
  rw [List.append_assoc] at this ⊢
  rw [List.cons_append,List.nodup_append] at *
  refine ⟨this.1,List.nodup_cons.mpr ⟨fun hm => notI I (by unfold Cx.av; rw [List.append_assoc]; exact List.mem_append_right _ hm) rfl,this.2.1⟩,fun a ha b hb e => ?_⟩
  rcases List.mem_cons.mp hb with q | q
  ·exact notI a (mem_av_own ha) (e.trans q)
  ·exact this.2.2 a ha b q e
 ·obtain ⟨hc,m,hm,hv⟩:=R₁.vars
  obtain ⟨_,m₀,hm₀,hv₀⟩:=R.vars
  refine ⟨hc,m₀,hm₀.keeps g,fun i x k av e1 e2 => ?_⟩
  obtain ⟨v,q1,q2⟩:=hv₀ i x k av e1 e2
  refine ⟨v,?_,q2.kp (c':=c) (hid':=I :: hid) kp (fun _ ha => nomatch ha) .refl hs⟩
  unfold SlotIs at q1 ⊢
  cases k <;> first | exact q1 | (obtain ⟨cc,e,ic⟩:=q1; exact ⟨cc,e,ic.keeps g⟩)
 ·intro i o e
  exact R.objs.kp (c':=c) (hid':=I :: hid) kp (fun _ ha => nomatch ha) (fun _ _ ha => nomatch ha) (fun a ha => (R.base.dis a (mem_av_live ha)).2.2) .refl (fun _ _ e => e) hs i o e
theorem Rel.hidStep {vs:VS} {ob as h h'} {I:Addr} (R:Rel W c (I :: hid) vs ob as h) (hc:∀ x cc,c.env.cells.lookup x = some cc → cc ≠ I) (g:∀ b o,b ≠ I → h.get? b = some o → h'.get? b = some o) (hI':(h'.get? I).isSome = true):Rel W c (I :: hid) vs ob as h':=by
 have hm:I ∈ c.av (I :: hid) as:=mem_av_hid (List.mem_cons_self ..)
 have kp:Kp W [I] h h':=⟨fun b o hb _ e => g b o (fun q => hb (q ▸ List.mem_singleton_self _)) e,fun b e => by
  by_cases q:b = I
  ·rw [q]; exact hI'
  ·cases z:h.get? b with
   | none => (first | exact noO z e | exact noI z e | (rw [z] at e; cases e))
   | some o => rw [g b o q z]; rfl⟩
 have hav:∀ b ∈ [I],b ∈ c.av (I :: hid) as:=fun b hb => by rw [List.mem_singleton.mp hb]; exact hm
 have nl:c.env.locals ≠ I:=fun e => by
  have:=own_not_hid R.nodup R.ok.loc
  exact this (e ▸ List.mem_cons_self ..)
 refine ⟨R.ok,R.base.step (fun b o hb e => g b o (fun q => hb (q ▸ hm)) e) kp.2 fun b hb => .inl hb,R.nodup,?_,⟨R.objs.1,R.objs.kp kp (fun b hb => .inl (hav b hb)) (fun b hb q => ?_) (fun b hb => (R.base.dis b (mem_av_live hb)).2.2) .refl (fun _ _ e => e) fun _ ha => .inl (mem_av_oh ha)⟩⟩
 ·obtain ⟨hcs,m,hm,hv⟩:=R.vars
  refine ⟨fun x cc e => (hcs x cc e).imp fun v ic => isCell_kp ic fun o e' => g _ _ (hc x cc e) e',m,?_,fun i x k av e1 e2 => ?_⟩
  ·obtain ⟨o,es,ep,e,r⟩:=hm
   exact ⟨o,es,ep,g _ _ nl e,r⟩
  ·obtain ⟨v,q1,q2⟩:=hv i x k av e1 e2
   refine ⟨v,?_,q2.step kp hav .refl⟩
   unfold SlotIs at q1 ⊢
   cases k <;> first | exact q1 | (obtain ⟨cc,e,ic⟩:=q1; exact ⟨cc,e,isCell_kp ic fun o e' => g _ _ (hc _ _ e) e'⟩)
 ·rw [List.mem_singleton.mp q] at hb
  exact oh_not_live R.nodup (List.mem_append_right _ (List.mem_cons_self ..)) hb
theorem kpBut {I:Addr} {l:List Addr} {h h':Heap} (m:I ∈ l) (g:∀ b o,b ≠ I → h.get? b = some o → h'.get? b = some o) (hI:(h'.get? I).isSome = true):Kp W l h h' :=
 ⟨fun b o hb _ e => g b o (fun q => hb (q ▸ m)) e,fun b e => by
  by_cases q:b = I
  ·rw [q]; exact hI
  ·exact isSome_of (g b · q) e⟩
theorem S.for {target iter:Expr} {body orelse:List Stmt} {pos:Pos} {Ti:TI} {Ta:TT} {Tb To:TS} (hit:It W c iter Ti) (hg:Tg W c target Ta) (hb:Ss W c body Tb) (ho:Ss W c orelse To)
  (htn:(∃ x p,target = .Name x p) ∨ ∃ es k p,target = .Tuple es k p) (hs:∀ x,foldedSetIterable iter c.env x = pure x) :
  S W c (.For target iter body orelse pos) (fun vs ob k => Ti vs ob fun items ob' => forT Ta Tb To items vs ob' k):=by
 intro A hid vs ob k s as Q hA ht R hQ
 have hcells:∀ x cc,c.env.cells.lookup x = some cc → cc ∈ c.own ++ hid:=R.ok.cells
 refine wpAny_For (hit A hid vs ob _ s as _ hA ht R fun I h₁ t₁ items ob₁ as₁ fp P St hk R₁ hI Wk st hsz hfp hitems hgo hsI kp ex => ?_) hs
 have hcI:∀ x cc,c.env.cells.lookup x = some cc → cc ≠ I:=fun x cc e q => by
  have:cc ∈ c.av hid as:=mem_av_oh (hcells x cc e)
  have:=(R.base.dis _ this).2.1
  rw [q,hI] at this; cases this
 have own_old:∀ a ∈ c.own,a ≠ I:=fun a ha q => own_not_hid R₁.nodup ha (q ▸ List.mem_cons_self ..)
 have back:∀ {h₃:Heap} {vs₃ ob₃ as₃},Rel W c (I :: hid) vs₃ ob₃ as₃ h₃ → Kp W (c.own ++ I :: live as₁) h₁ h₃ → Ex h₁ as₁ as₃ → Rel W c hid vs₃ ob₃ as₃ h₃ ∧ Kw W c as s.heap h₃ ∧ Ex s.heap as as₃ ∧ (∀ x v,VV c.isclo (Gh W h₃ (c.av (I :: hid) as₃)) as₃ x v → VV c.isclo (Gh W h₃ (c.av hid as₃)) as₃ x v):=fun R₃ k₃ e₃ => by
  have ex':=ex.trans kp e₃
  refine ⟨R₃.unhide hcells,?_,ex',fun x v t => t.unhide⟩
  refine Kp.trans kp.kw k₃ fun a ha => ?_
  rcases List.mem_append.mp ha with q | q
  ·exact .inl (List.mem_append_left _ q)
  ·rcases List.mem_cons.mp q with q | q
   ·exact .inr (q ▸ hI)
   ·exact (ex.live a q).imp (fun z => live_sub a z) id
 have stK:∀ {j h₃ h₄:_},St j h₃ → (∀ b o,b ∈ fp → h₃.get? b = some o → h₄.get? b = some o) → St j h₄:=fun st g => Wk.frame _ _ _ st fun b hb o e => g b o hb e
 have fpK:∀ {h₃ h₄:Heap} {as₃:AS},Ex h₁ as₁ as₃ → (∀ b o,b ∉ c.own ++ live as₃ → b ∉ W.tP → h₃.get? b = some o → h₄.get? b = some o) → ∀ b o,b ∈ fp → h₃.get? b = some o → h₄.get? b = some o:=fun e₃ g b o hb e => by
  by_cases q:b = I
  ·refine g b o (fun hm => ?_) (fun hm => (R₁.base.dis I (mem_av_hid (List.mem_cons_self ..))).2.2 (q ▸ hm)) e
   rcases List.mem_append.mp hm with z | z
   ·exact own_old b z q
   ·rcases e₃.live b z with y | y
    ·exact oh_not_live R₁.nodup (List.mem_append_right _ (List.mem_cons_self ..)) (q ▸ y)
    ·have:=(R₁.base.dis I (mem_av_hid (List.mem_cons_self ..))).2.1
     rw [← q,y] at this; cases this
  ·obtain ⟨f1,f2,f3⟩:=hfp b hb q
   refine g b o (fun hm => ?_) f2 e
   rcases List.mem_append.mp hm with z | z
   ·exact f1 (mem_av_own z)
   ·rcases e₃.live b z with y | y
    ·exact f1 (mem_av_live y)
    ·(first | exact noO y f3 | exact noI y f3 | (rw [y] at f3; cases f3))
 have chain:∀ {as₃:AS} {h₃ h₄:Heap},Kp W (c.own ++ I :: live as₁) h₁ h₃ → Ex h₁ as₁ as₃ → Kp W (c.own ++ I :: live as₃) h₃ h₄ → Kp W (c.own ++ I :: live as₁) h₁ h₄:=fun k₃ e₃ k₄ => by
  refine Kp.trans k₃ k₄ fun a ha => ?_
  rcases List.mem_append.mp ha with q | q
  ·exact .inl (List.mem_append_left _ q)
  ·rcases List.mem_cons.mp q with q | q
   ·exact .inl (List.mem_append_right _ (q ▸ List.mem_cons_self ..))
   ·exact (e₃.live a q).imp (fun z => List.mem_append_right _ (List.mem_cons_of_mem _ z)) id
 obtain ⟨J,mkJ,elJ⟩:∃ J:Nat → Shared → Prop,(∀ j h tk vs ob as,j ≤ items.length → Rel W c (I :: hid) vs ob as h → St j h → forT Ta Tb To (items.drop j) vs ob k → Kp W (c.own ++ I :: live as₁) h₁ h → Ex h₁ as₁ as → J (items.length - j) { s with heap:=h,toks:=tk }) ∧
   ∀ n s',J n s' → ∃ j h tk vs ob as,s' = { s with heap:=h,toks:=tk } ∧ n = items.length - j ∧ j ≤ items.length ∧ Rel W c (I :: hid) vs ob as h ∧ St j h ∧ forT Ta Tb To (items.drop j) vs ob k ∧ Kp W (c.own ++ I :: live as₁) h₁ h ∧ Ex h₁ as₁ as :=
  ⟨_,fun j h tk vs ob as a1 a2 a3 a4 a5 a6 => ⟨j,h,tk,vs,ob,as,rfl,rfl,a1,a2,a3,a4,a5,a6⟩,fun _ _ h => h⟩
 refine codeAny_forLoop_any J ?_ items.length (mkJ 0 h₁ t₁ vs ob₁ as₁ (Nat.zero_le _) R₁ st hk .refl .refl)
 intro n s' hJ
 obtain ⟨j,h,tk,vs₂,ob₂,as₂,rfl,rfl,hj,R₂,st₂,hT,kp₂,ex₂⟩:=elJ n s' hJ
 clear elJ hJ
 by_cases hlt:j < items.length
 ·rw [List.drop_eq_getElem_cons hlt] at hT
  refine Wk.item j { s with heap:=h,toks:=tk } _ _ hlt st₂ fun v h₃ t₃ hP st₃ hk₃ => ?_
  have g₃:∀ b o,b ≠ I → h.get? b = some o → h₃.get? b = some o:=fun b o hb e => hk₃ b o (fun hm => hb (List.mem_singleton.mp hm)) e
  have R₃:Rel W c (I :: hid) vs₂ ob₂ as₂ h₃:=R₂.hidStep hcI g₃ (hsI _ _ st₃)
  have c₃:=chain kp₂ ex₂ (kpBut (List.mem_append_right _ (List.mem_cons_self ..)) g₃ (hsI _ _ st₃))
  have hv:TV (Gh W h₃ (c.av (I :: hid) as₂)) items[j] v:=hitems j _ v (List.getElem?_eq_getElem hlt) hP h₃ as₂ c₃ ex₂
  refine wpE (ownedAny htn (fun es kk p hq => hgo (j + 1) es kk p v _ _ st₃ hq) ?_)
  refine wpE (hg A (I :: hid) vs₂ ob₂ _ { s with heap:=h₃,toks:=t₃ } as₂ _ items[j] v hA hT R₃ (VV.of hv) fun h₄ t₄ vs₄ ob₄ hT₄ R₄ kp₄ => ?_)
  have st₄:St (j + 1) h₄:=stK st₃ (fpK ex₂ fun b o hb ht e => kp₄.1 b o (fun hm => hb (List.mem_append_left _ hm)) ht e)
  have c₄:=chain c₃ ex₂ (kp₄.more fun a ha => .inl (List.mem_append_left _ ha))
  refine wpE (hb A (I :: hid) vs₄ ob₄ _ { s with heap:=h₄,toks:=t₄ } as₂ _ hA hT₄ R₄ fun f h₅ t₅ fl vs₅ ob₅ as₅ hk R₅ hf kw₅ ex₅ => ?_)
  have st₅:=stK st₄ (fpK ex₂ fun b o hb ht e => kw₅.1 b o hb ht e)
  have k₅:=chain c₄ ex₂ (Kp.more kw₅ fun a ha => .inl ((List.mem_append.mp ha).elim (List.mem_append_left _) fun q => List.mem_append_right _ (List.mem_cons_of_mem _ q)))
  have e₅:=Ex.trans ex₂ c₄ ex₅
  cases fl with
  | next => cases hf; exact ⟨_,Nat.sub_succ_lt_self _ _ hlt,mkJ (j + 1) h₅ t₅ vs₅ ob₅ as₅ hlt R₅ st₅ hk k₅ e₅⟩
  | cont => cases hf; exact ⟨_,Nat.sub_succ_lt_self _ _ hlt,mkJ (j + 1) h₅ t₅ vs₅ ob₅ as₅ hlt R₅ st₅ hk k₅ e₅⟩
  | brk =>
   cases hf
   obtain ⟨R₆,kw,e₆,_⟩:=back R₅ k₅ e₅
   exact hQ _ h₅ t₅ .next vs₅ ob₅ as₅ hk R₆ rfl kw e₆
  | ret av =>
   obtain ⟨u,rfl,hu⟩:=hf
   obtain ⟨R₆,kw,e₆,upv⟩:=back R₅ k₅ e₅
   exact hQ _ h₅ t₅ (.ret av) vs₅ ob₅ as₅ hk R₆ ⟨u,rfl,upv _ _ hu⟩ kw e₆
 ·obtain rfl:=Nat.le_antisymm hj (Nat.le_of_not_lt hlt)
  rw [List.drop_length] at hT
  refine Wk.done { s with heap:=h,toks:=tk } _ _ st₂ fun h₃ t₃ hk₃ => ?_
  have g₃:∀ b o,b ≠ I → h.get? b = some o → h₃.get? b = some o:=fun b o hb e => hk₃ b o (fun hm => hb (List.mem_singleton.mp hm)) e
  obtain ⟨_,kw,e₆,_⟩:=back R₂ kp₂ ex₂
  have R₃:=R₂.unhideStep hcells hcI g₃
  have nI:∀ b,(s.heap.get? b).isSome = true → b ≠ I:=fun b e q => by rw [q,hI] at e; cases e
  have kw₃:Kw W c as s.heap h₃:=⟨fun b o h1 h2 e => g₃ b o (nI b (by rw [e]; rfl)) (kw.1 b o h1 h2 e),fun b e => isSome_of (g₃ b · (nI b e)) (kw.2 b e)⟩
  refine wpE (ho A hid vs₂ ob₂ k { s with heap:=h₃,toks:=t₃ } as₂ _ hA hT R₃ fun f h₄ t₄ fl vs₄ ob₄ as₄ hk₄ R₄ hf₄ kw₄ ex₄ => ?_)
  exact hQ f h₄ t₄ fl vs₄ ob₄ as₄ hk₄ R₄ hf₄ (kw₃.trans kw₄ e₆) (e₆.trans kw₃ ex₄)
end
section
variable {W:Wd} {c:Cx} {hid:List Addr}
noncomputable abbrev TF:=List AV → OB → (AV → OB → Prop) → Prop
noncomputable def Fn (W:Wd) (d:Nat) (fv:Value) (T:TF):Prop :=
 ∀ (A:Around) (c:Cx) (hid:List Addr) (vs:VS) (ob:OB) (k:AV → OB → Prop) (s:Shared) (as:AS) (Q:Value → Shared → Prop) (avs:List AV) (us:List Value),
  OkA d A → T avs ob k → Rel W c hid vs ob as s.heap → VVs c.isclo (Gh W s.heap (c.av hid as)) as avs us →
  (∀ (v:Value) (h':Heap) (tk:Nat) (av:AV) (ob':OB) (as':AS),k av ob' → Rel W c hid vs ob' as' h' → VV c.isclo (Gh W h' (c.av hid as')) as' av v → Kp W (live as) s.heap h' → Ex s.heap as as' → Q v { s with heap:=h',toks:=tk }) →
  wpAny (model W.prog W.w) A (call fv us) Q (fun _ _ => False) s
theorem OkA.le {d d':Nat} {A:Around} (h:OkA d A) (hd:d' ≤ d):OkA d' A:=⟨h.1,by have:=h.2.1; lia,by have:=h.2.2; lia⟩
theorem Fn.then {d:Nat} {fv:Value} {T:TF} (H:Fn W d fv T) {A:Around} {vs:VS} {ob':OB} {as as':AS} {s:Shared} {h':Heap} {tk:Nat} {k:AV → OB → Prop} {Q:Value → Shared → Prop} {avs us} (hA:OkA c.d A) (hd:d ≤ c.d)
  (ht:T avs ob' k) (R':Rel W c hid vs ob' as' h') (hv:VVs c.isclo (Gh W h' (c.av hid as')) as' avs us) (kp:Kp W (live as) s.heap h') (ex:Ex s.heap as as')
  (hQ:∀ (v:Value) (h'':Heap) (tk:Nat) (av:AV) (ob'':OB) (as'':AS),k av ob'' → Rel W c hid vs ob'' as'' h'' → VV c.isclo (Gh W h'' (c.av hid as'')) as'' av v → Kp W (live as) s.heap h'' → Ex s.heap as as'' → Q v { s with heap:=h'',toks:=tk }) :
  wpAny (model W.prog W.w) A (call fv us) Q (fun _ _ => False) { s with heap:=h',toks:=tk } :=
 H A c hid vs ob' k { s with heap:=h',toks:=tk } as' Q avs us (hA.le hd) ht R' hv fun v h'' tk' av ob'' as'' hk R'' hv kp' ex' => hQ v h'' tk' av ob'' as'' hk R'' hv (kp.trans kp' ex.live) (ex.trans kp ex')
inductive Cal (W:Wd):Value → Prop where
 | builtin (id):Cal W (.builtin id)
 | type (T):Cal W (.type T)
 | func (f o fd):W.h₀.get? f = some o → o.data = .func fd → Cal W (.ref f)
 | cls (C N mN):ClsAt W.h₀ C N mN → Cal W (.ref C)
theorem E.call {x:Str} {p pos:Pos} {e:Expr} {rest:List Expr} {fv:Value} {Ta:TEs} {T:TF} {d:Nat} (hf:E W c (.Name x p) (fun _ ob k => k (.cst fv) ob)) (hc:Cal W fv) (ha:Es W c (e :: rest) Ta) (hfn:Fn W d fv T) (hd:d ≤ c.d)
  (he:starEach (e :: rest) c.env = (false,eval e c.env) :: starEach rest c.env) (hp:∀ pos,(backTo pos (starEach rest c.env)).any (·.1) = false) :
  E W c (.Call (.Name x p) (e :: rest) [] pos) (fun vs ob k => Ta vs ob fun avs ob' => T avs ob' k):=by
 intro A hid vs ob k s as Q hA ht R hQ
 refine Call_Name (p:=p) rfl (hf A hid vs ob (fun a ob' => a = .cst fv ∧ Ta vs ob' fun avs ob' => T avs ob' k) s as _ hA ⟨rfl,ht⟩ R fun v h₁ t₁ a ob₁ as₁ hk₁ R₁ hv kp₁ ex₁ => ?_)
 obtain ⟨rfl,hk₁⟩:=hk₁
 have hv':TV _ (.cst fv) v:=hv
 cases hv'
 have args:=ha A hid vs ob₁ _ { s with heap:=h₁,toks:=t₁ } as₁ pos (fun us s₂ => (∀ b o,W.h₀.get? b = some o → s₂.heap.get? b = some o) ∧ wpAny (model W.prog W.w) A (PySem.call fv us) Q (fun _ _ => False) s₂) hA hk₁ R₁ fun us h₂ t₂ avs ob₂ as₂ hk₂ R₂ hvs kp₂ ex₂ =>
  ⟨R₂.base.sub,hfn.then (s:=s) hA hd hk₂ R₂ hvs (kp₁.trans kp₂ ex₁.live) (ex₁.trans kp₁ ex₂) hQ⟩
 cases hc with
 | builtin id => exact callWith_builtin1 (wpF args fun _ _ h => h.2) he (hp pos)
 | type T => exact callWith_type1 (wpF args fun _ _ h => h.2) he (hp pos)
 | func f o fd ho hdat => exact callWith_def (o:=o) hdat (wpF args fun _ _ h => ⟨h.1 f o ho,h.2⟩) he
 | cls C N mN X => exact callWith_cls X (wpF args fun _ _ h => h) he (hp pos)
theorem letOwned_ok {A:Around} {I:Addr} {o:Obj} {n:String} {vs:Array Value} {elts:List Expr} {x1:Nat} {pos:Pos} {v:Value} {s:Shared} {Q:Unit → Shared → Prop} (ho:s.heap.get? I = some o) (hc:o.cls = .type n) (hd:o.data = .fields vs)
  (hn:(["enumerate","zip","dict_itemiterator","dict_reverseitemiterator","odict_iterator","itertools.zip_longest","itertools.pairwise"].contains n) = false) (hQ:Q () s) :
  wpAny (model W.prog W.w) A (letOwnedTupleGo (.Tuple elts x1 pos) (.ref I) v) Q (fun _ _ => False) s:=by
 cases v <;> try exact wpAny_pure hQ
 rename_i T
 unfold letOwnedTupleGo
 refine wpAny_bind (wpAny_load ho ?_)
 rw [hc,hd]
 show wpAny _ A (if (["enumerate","zip","dict_itemiterator","dict_reverseitemiterator","odict_iterator","itertools.zip_longest","itertools.pairwise"].contains n && vs[0]? == some (rawInt T)) = true then _ else _) Q _ s
 rw [if_neg (by rw [hn,Bool.false_and]; exact Bool.false_ne_true)]
 exact wpAny_pure hQ
theorem notin_av {as:AS} {h:Heap} {a:Addr} (B:Base W (c.av hid as) h) (e:h.get? a = Option.none):a ∉ c.av hid as:=fun hm => by have:=(B.dis a hm).2.1; (first | exact noO e this | exact noI e this | (rw [e] at this; cases this))
theorem items_stand {as as₂:AS} {h h' h₂:Heap} {I:Addr} {x:AV} {v:Value} (t:TV (Gh W h (c.av hid as)) x v) (g:∀ b o,h.get? b = some o → h'.get? b = some o) (hI:h.get? I = Option.none)
  (k:Kp W (c.own ++ I :: live as) h' h₂) (ex:Ex h' as as₂):TV (Gh W h₂ (c.av (I :: hid) as₂)) x v:=by
 have mem:∀ a,a ∈ c.av (I :: hid) as → a ∈ c.av hid as ∨ h.get? a = Option.none:=fun a ha => by
  rcases List.mem_append.mp ha with q | q
  ·rcases List.mem_append.mp q with q | q
   ·exact .inl (mem_av_own q)
   ·rcases List.mem_cons.mp q with q | q
    ·exact .inr (by rw [q]; exact hI)
    ·exact .inl (mem_av_hid q)
  ·exact .inl (mem_av_live q)
 have t₁:TV (Gh W h' (c.av (I :: hid) as)) x v:=t.kp (W:=W) (Kp.grow g []) (fun _ ha => nomatch ha) mem
 refine t₁.kp k (fun a ha => ?_) ex.av
 rcases List.mem_append.mp ha with q | q
 ·exact .inl (mem_av_own q)
 ·rcases List.mem_cons.mp q with q | q
  ·exact .inl (mem_av_hid (q ▸ List.mem_cons_self ..))
  ·exact .inl (mem_av_live q)
theorem av_cons {as:AS} {b I:Addr} (hne:b ≠ I) (hm:b ∈ c.av (I :: hid) as):b ∈ c.av hid as:=(List.mem_append.mp hm).elim (fun q => (List.mem_append.mp q).elim (fun q => mem_av_own q) fun q => (List.mem_cons.mp q).elim (fun q => absurd q hne) fun q => mem_av_hid q) fun q => mem_av_live q
theorem fp_ok {as:AS} {h h':Heap} {I l:Addr} {o:Obj} (gl:Gh W h (c.av hid as) l o) (g:∀ b o,h.get? b = some o → h'.get? b = some o) (b:Addr) (hb:b ∈ [I,l]) (hne:b ≠ I):b ∉ c.av (I :: hid) as ∧ b ∉ W.tP ∧ (h'.get? b).isSome = true:=by
 obtain rfl:b = l:=(List.mem_cons.mp hb).elim (fun q => absurd q hne) List.mem_singleton.mp
 exact ⟨fun hm => gl.2.1 (av_cons hne hm),gl.2.2,by rw [g _ _ gl.1]; rfl⟩
theorem new_none {s h₁:Heap} {l:List Addr} (kp:Kp W l s h₁) (a:Addr) (e:h₁.get? a = Option.none):s.get? a = Option.none:=nI fun q => noI e (kp.2 a q)
theorem arrAt {α:Type} {us:List α} {j:Nat} {u u':α} (h:us.toArray[j]? = some u) (e:us[j]? = some u'):u' = u:=Option.some.inj (e.symm.trans (List.getElem?_toArray.symm.trans h))
theorem It.seq {e:Expr} {T:TE} (h:E W c e T):It W c e (fun vs ob k => T vs ob fun a ob' => ∃ xs,(a = .lst xs ∨ a = .tup xs) ∧ xs.length ≤ sizeLine ∧ k xs ob'):=by
 intro A hid vs ob k s as Q hA ht R hQ
 refine h A hid vs ob _ s as _ hA ht R fun v h₁ t₁ a ob₁ as₁ hk R₁ hv kp ex => ?_
 obtain ⟨xs,hx,hsz,hk⟩:=hk
 have hI:=size_none h₁
 have g:∀ o:Obj,∀ b o',h₁.get? b = some o' → (h₁.push o).get? b = some o':=fun o => push_grow _ _
 have ne:∀ {l:Addr} {o:Obj},Gh W h₁ (c.av hid as₁) l o → l ≠ h₁.objs.size:=fun gl e => by have:=gl.1; rw [e,hI] at this; cases this
 rcases hx with rfl | rfl
 ·refine (show TV _ (.lst xs) v from hv).lstE fun l us n gl t => ?_
  refine wpAny_pyIter_list (items:=us.toArray) ⟨_,gl.1,rfl,n,rfl⟩ ?_
  have Wk:=Walks.list (prog:=W.prog) (w:=W.w) (A:=A) hA.1 h₁.objs.size l (ne gl) us.toArray
  rw [show us.toArray.size = xs.length by rw [List.size_toArray,t.length]] at Wk
  refine hQ h₁.objs.size _ t₁ xs ob₁ as₁ _ _ _ hk (R₁.hide (g _) hI (by rw [Heap.get?_push_size _ rfl]; rfl)) (new_none kp _ hI) Wk ⟨⟨_,Heap.get?_push_size _ rfl,rfl,rfl⟩,⟨_,g _ _ _ gl.1,rfl,n,rfl⟩⟩ hsz (fp_ok gl (g _)) ?_ ?_ ?_ (kp.trans (Kp.grow (g _) []) fun _ ha => nomatch ha) ex
  ·intro j x u hx hP h₂ as₂ kp₂ ex₂
   obtain ⟨u',e',tu⟩:=t.get hx
   exact items_stand (arrAt hP e' ▸ tu) (g _) hI kp₂ ex₂
  ·intro i elts x1 pos u s₂ Q₂ st hq
   obtain ⟨⟨o,e1,e2,e3⟩,_⟩:=st
   exact letOwned_ok e1 e2 e3 (by decide) hq
  ·rintro i h ⟨⟨o,e1,_⟩,_⟩; rw [e1]; rfl
 ·refine (show TV _ (.tup xs) v from hv).tupE fun l us n gl t => ?_
  refine wpAny_pyIter_tuple (items:=us.toArray) ⟨_,gl.1,rfl,n,rfl⟩ ?_
  have Wk:=Walks.tuple (prog:=W.prog) (w:=W.w) (A:=A) hA.1 h₁.objs.size l (ne gl) us.toArray
  rw [show us.toArray.size = xs.length by rw [List.size_toArray,t.length]] at Wk
  refine hQ h₁.objs.size _ t₁ xs ob₁ as₁ _ _ _ hk (R₁.hide (g _) hI (by rw [Heap.get?_push_size _ rfl]; rfl)) (new_none kp _ hI) Wk ⟨⟨_,Heap.get?_push_size _ rfl,rfl,rfl⟩,⟨_,g _ _ _ gl.1,rfl,n,rfl⟩⟩ hsz (fp_ok gl (g _)) ?_ ?_ ?_ (kp.trans (Kp.grow (g _) []) fun _ ha => nomatch ha) ex
  ·intro j x u hx hP h₂ as₂ kp₂ ex₂
   obtain ⟨u',e',tu⟩:=t.get hx
   exact items_stand (arrAt hP e' ▸ tu) (g _) hI kp₂ ex₂
  ·intro i elts x1 pos u s₂ Q₂ st hq
   obtain ⟨⟨o,e1,e2,e3⟩,_⟩:=st
   exact letOwned_ok e1 e2 e3 (by decide) hq
  ·rintro i h ⟨⟨o,e1,_⟩,_⟩; rw [e1]; rfl
end
section
variable {W:Wd} {c:Cx} {hid:List Addr}
noncomputable def rngAV (a b:Int):List AV:=(List.range (b - a).toNat).map fun (i:Nat) => .int (a + i)
theorem rngAV_length (a b:Int):(rngAV a b).length = (b - a).toNat:=by unfold rngAV; simp
theorem rangeSize_one (a b:Int):Builtin.Range.rangeSize a b 1 = ((b - a).toNat:Int):=by
 unfold Builtin.Range.rangeSize
 simp
 rcases Int.lt_or_le a b with h | h
 ·rw [if_pos h,Int.max_eq_left (Int.sub_nonneg_of_le (Int.le_of_lt h))]
 ·rw [if_neg (Int.not_lt.mpr h),Int.max_eq_right (Int.sub_nonpos_of_le h)]
noncomputable def RangeOk (a b:Int):Prop:=-(2 ^ 40) ≤ a ∧ a ≤ 2 ^ 40 ∧ -(2 ^ 40) ≤ b ∧ b ≤ 2 ^ 40 ∧ (b - a).toNat ≤ sizeLine
theorem small_of {a b:Int} (h:RangeOk a b):Builtin.Range.small a b 1 = true:=by
 obtain ⟨h1,h2,h3,h4,h5⟩:=h
 unfold sizeLine at h5
 unfold Builtin.Range.small
 rw [rangeSize_one]
 simp [Builtin.Range.rangeFitsLong]
 lia
theorem rng_it {A:Around} {vs:VS} {ob₁:OB} {as as₁:AS} {s:Shared} {h₁:Heap} {tk:Nat} {k:List AV → OB → Prop} {Q:Value → Shared → Prop} {a b:Int} {t u v:Tok} (hA:A.handled = none)
  (hr:RangeOk a b) (hk:k (rngAV a b) ob₁) (R₁:Rel W c hid vs ob₁ as₁ h₁) (kp:Kp W (live as) s.heap h₁) (ex:Ex s.heap as as₁)
  (hQ:∀ (I:Addr) (h':Heap) (tk:Nat) (items:List AV) (ob':OB) (as':AS) (fp:List Addr) (P:Nat → Value → Prop) (St:Nat → Heap → Prop),
   k items ob' → Rel W c (I :: hid) vs ob' as' h' → s.heap.get? I = Option.none → Walks W.prog W.w A I fp [I] items.length P St → St 0 h' → items.length ≤ sizeLine →
   (∀ b ∈ fp,b ≠ I → b ∉ c.av (I :: hid) as' ∧ b ∉ W.tP ∧ (h'.get? b).isSome = true) → (∀ j x v,items[j]? = some x → P j v → ∀ h₂ as₂,Kp W (c.own ++ I :: live as') h' h₂ → Ex h' as' as₂ → TV (Gh W h₂ (c.av (I :: hid) as₂)) x v) →
   (∀ (i:Nat) (elts:List Expr) (x1:Nat) (pos:Pos) (v:Value) (s₂:Shared) (Q₂:Unit → Shared → Prop),St i s₂.heap → Q₂ () s₂ → wpAny (model W.prog W.w) A (letOwnedTupleGo (.Tuple elts x1 pos) (.ref I) v) Q₂ (fun _ _ => False) s₂) →
   (∀ i h,St i h → (h.get? I).isSome = true) → Kp W (live as) s.heap h' → Ex s.heap as as' → Q (.ref I) { s with heap:=h',toks:=tk }) :
  wpAny (model W.prog W.w) A (pyIter (.ref h₁.objs.size)) Q (fun _ _ => False) { s with heap:=h₁.push { cls:=.type "range",data:=.fields #[.int a t,.int b u,.int 1 v] },toks:=tk }:=by
 have g:∀ o:Obj,∀ h:Heap,∀ b o',h.get? b = some o' → (h.push o).get? b = some o':=fun o h => push_grow h o
 generalize ho:({ cls:=.type "range",data:=.fields #[.int a t,.int b u,.int 1 v] }:Obj) = o
 have hf:o.isFreed = false:=by rw [← ho]; rfl
 have hsz:(h₁.push o).objs.size = h₁.objs.size + 1:=Heap.size_push ..
 refine wpAny_pyIter_range (a:=a) (b:=b) (c:=1) (t:=t) (u:=u) (v:=v) (by show Heap.get? _ _ = _; rw [Heap.get?_push_size _ hf,← ho]) (small_of hr) ?_
 have hI:(h₁.push o).get? (h₁.push o).objs.size = none:=size_none _
 have R₂:=R₁.grow (g o h₁)
 have Wk:=Walks.range (prog:=W.prog) (w:=W.w) (A:=A) hA (h₁.push o).objs.size a 1 (b - a).toNat
 rw [← rngAV_length] at Wk
 refine hQ (h₁.push o).objs.size _ tk (rngAV a b) ob₁ as₁ _ _ _ hk (R₂.hide (g _ _) hI (by rw [Heap.get?_push_size _ rfl]; rfl)) ?_ Wk ?_ (by rw [rngAV_length]; exact hr.2.2.2.2) ?_ ?_ ?_ ?_ ?_ ex
 ·cases q:s.heap.get? (h₁.push o).objs.size with
  | none => rfl
  | some o' =>
   have:=kp.2 _ (by rw [q]; rfl)
   cases z:h₁.get? (h₁.push o).objs.size with
   | none => (first | exact noO z this | exact noI z this | (rw [z] at this; cases this))
   | some o'' => rw [g o h₁ _ _ z] at hI; cases hI
 ·show Heap.get? _ _ = _
  rw [Heap.get?_push_size _ rfl,rangeSize_one,rngAV_length]
  congr 3
  simp
 ·intro x hx hne; exact absurd (List.mem_singleton.mp hx) hne
 ·rintro j x vv hx ⟨t',rfl⟩ h₂ as₂ _ _
  unfold rngAV at hx
  rw [List.getElem?_map] at hx
  cases q:(List.range (b - a).toNat)[j]? with
  | none => (first | exact noO q hx | exact noI q hx | (rw [q] at hx; cases hx))
  | some j' =>
   rw [q] at hx
   have:j' = j:=by
    obtain ⟨hl,e⟩:=List.getElem?_eq_some_iff.mp q
    simpa using e.symm
   subst this
   cases hx
   rw [Int.mul_one]
   exact .int ..
 ·intro i elts x1 pos vv s₂ Q₂ st hq
  exact letOwned_ok st rfl rfl (by decide) hq
 ·intro i h st
  have st:h.get? _ = some _:=st
  rw [st]; rfl
 ·exact (kp.trans (Kp.grow (g o h₁) []) fun _ ha => nomatch ha).trans (Kp.grow (g _ _) []) fun _ ha => nomatch ha
noncomputable def is1 (P:AV → Prop):List AV → Prop
 | [a] => P a
 | _ => False
noncomputable def is2 (P:AV → AV → Prop):List AV → Prop
 | [a,b] => P a b
 | _ => False
theorem is1_ok {C:CP} {G:GP} {as:AS} {avs us} {P:AV → Prop} (h:VVs C G as avs us):is1 P avs → ∃ a u,us = [u] ∧ VV C G as a u ∧ P a:=by
 cases h with
 | nil => exact False.elim
 | cons t ts => cases ts with
  | nil => exact fun h => ⟨_,_,rfl,t,h⟩
  | cons => exact False.elim
theorem is2_ok {C:CP} {G:GP} {as:AS} {avs us} {P:AV → AV → Prop} (h:VVs C G as avs us):is2 P avs → ∃ a b u v,us = [u,v] ∧ VV C G as a u ∧ VV C G as b v ∧ P a b:=by
 cases h with
 | nil => exact False.elim
 | cons t ts => cases ts with
  | nil => exact False.elim
  | cons t2 ts => cases ts with
   | nil => exact fun h => ⟨_,_,_,_,rfl,t,t2,h⟩
   | cons => exact False.elim
theorem It.range1 {x:Str} {p pos:Pos} {e:Expr} {T:TE} (hf:E W c (.Name x p) (fun _ ob k => k (.cst (.type "range")) ob)) (h:E W c e T)
  (he:starEach [e] c.env = [(false,eval e c.env)]) (hz:starEach [] c.env = []):It W c (.Call (.Name x p) [e] [] pos) (fun vs ob k => T vs ob fun a ob' => ∃ n,a = .int n ∧ RangeOk 0 n ∧ k (rngAV 0 n) ob'):=by
 intro A hid vs ob k s as Q hA ht R hQ
 refine Call_Name (p:=p) rfl (hf A hid vs ob (fun a ob' => a = .cst (.type "range") ∧ T vs ob' fun a ob' => ∃ n,a = .int n ∧ RangeOk 0 n ∧ k (rngAV 0 n) ob') s as _ hA ⟨rfl,ht⟩ R fun v h₁ t₁ a ob₁ as₁ hk₁ R₁ hv kp₁ ex₁ => ?_)
 obtain ⟨rfl,hk₁⟩:=hk₁
 revert hv
 refine fun hv => TV.cstE (show TV _ (.cst (.type "range")) v from hv) ?_
 have hs:Es W c [e] _:=Es.cons h Es.nil (by rw [he,hz])
 refine callWith_type1 (hs A hid vs ob₁ (fun avs ob' => is1 (fun a => ∃ n,a = .int n ∧ RangeOk 0 n ∧ k (rngAV 0 n) ob') avs) { s with heap:=h₁,toks:=t₁ } as₁ pos _ hA hk₁ R₁ fun us h₂ t₂ avs ob₂ as₂ hk₂ R₂ hvs kp₂ ex₂ => ?_) (by rw [he,hz]) (by rw [hz]; rfl)
 obtain ⟨_,u,rfl,hu,n,rfl,hr,hk⟩:=is1_ok hvs hk₂
 exact (show TV _ (.int n) u from hu).intE fun _ => call_range_1 (rng_it (s:=s) hA.1 hr hk R₂ (kp₁.trans kp₂ ex₁.live) (ex₁.trans kp₁ ex₂) hQ)
theorem It.range2 {x:Str} {p pos:Pos} {e e':Expr} {T T':TE} (hf:E W c (.Name x p) (fun _ ob k => k (.cst (.type "range")) ob)) (h:E W c e T) (h':E W c e' T')
  (he:starEach [e,e'] c.env = [(false,eval e c.env),(false,eval e' c.env)]) (he':starEach [e'] c.env = [(false,eval e' c.env)]) (hz:starEach [] c.env = []) :
  It W c (.Call (.Name x p) [e,e'] [] pos) (fun vs ob k => T vs ob fun a ob' => T' vs ob' fun b ob'' => ∃ m n,a = .int m ∧ b = .int n ∧ RangeOk m n ∧ k (rngAV m n) ob''):=by
 intro A hid vs ob k s as Q hA ht R hQ
 refine Call_Name (p:=p) rfl (hf A hid vs ob (fun a ob' => a = .cst (.type "range") ∧ T vs ob' fun a ob' => T' vs ob' fun b ob'' => ∃ m n,a = .int m ∧ b = .int n ∧ RangeOk m n ∧ k (rngAV m n) ob'') s as _ hA ⟨rfl,ht⟩ R fun v h₁ t₁ a ob₁ as₁ hk₁ R₁ hv kp₁ ex₁ => ?_)
 obtain ⟨rfl,hk₁⟩:=hk₁
 revert hv
 refine fun hv => TV.cstE (show TV _ (.cst (.type "range")) v from hv) ?_
 have hs:Es W c [e,e'] _:=Es.cons h (Es.cons h' Es.nil (by rw [he',hz])) (by rw [he,he'])
 refine callWith_type1 (hs A hid vs ob₁ (fun avs ob' => is2 (fun a b => ∃ m n,a = .int m ∧ b = .int n ∧ RangeOk m n ∧ k (rngAV m n) ob') avs) { s with heap:=h₁,toks:=t₁ } as₁ pos _ hA hk₁ R₁ fun us h₂ t₂ avs ob₂ as₂ hk₂ R₂ hvs kp₂ ex₂ => ?_) (by rw [he,he']) (by rw [he']; rfl)
 obtain ⟨_,_,u,u',rfl,hu,hu',m,n,rfl,rfl,hr,hk⟩:=is2_ok hvs hk₂
 exact (show TV _ (.int m) u from hu).intE fun _ => (show TV _ (.int n) u' from hu').intE fun _ => call_range_2 (rng_it (s:=s) hA.1 hr hk R₂ (kp₁.trans kp₂ ex₁.live) (ex₁.trans kp₁ ex₂) hQ)
end
section
variable {W:Wd} {c:Cx} {hid:List Addr}
noncomputable def whileT (Tt:TB) (Tb To:TS):Nat → TS
 | 0 => fun _ _ _ => False
 | n + 1 => fun vs ob k => Tt vs ob fun b ob₁ => (b = true → Tb vs ob₁ (loopK (whileT Tt Tb To n) k)) ∧ (b = false → To vs ob₁ k)
theorem S.while {test:Expr} {body orelse:List Stmt} {pos:Pos} {Tt:TB} {Tb To:TS} (n:Nat) (ht:Is W c test Tt) (hb:Ss W c body Tb) (ho:Ss W c orelse To) :
  S W c (.While test body orelse pos) (whileT Tt Tb To n):=by
 intro A hid vs ob k s as Q hA hT R hQ
 refine wpAny_While ?_
 obtain ⟨J,mkJ,elJ⟩:∃ J:Nat → Shared → Prop,(∀ m h tk vs' ob' as',Rel W c hid vs' ob' as' h → whileT Tt Tb To m vs' ob' k → Kw W c as s.heap h → Ex s.heap as as' → J m { s with heap:=h,toks:=tk }) ∧
   ∀ m s',J m s' → ∃ h tk vs' ob' as',s' = { s with heap:=h,toks:=tk } ∧ Rel W c hid vs' ob' as' h ∧ whileT Tt Tb To m vs' ob' k ∧ Kw W c as s.heap h ∧ Ex s.heap as as' :=
  ⟨_,fun m h tk vs' ob' as' a1 a2 a3 a4 => ⟨h,tk,vs',ob',as',rfl,a1,a2,a3,a4⟩,fun _ _ h => h⟩
 refine codeAny_whileLoop J ?_ n (mkJ n s.heap s.toks vs ob as R hT Kp.refl .refl)
 intro m s' hJ
 obtain ⟨h,tk,vs',ob',as',rfl,R',hT',kw,ex⟩:=elJ m s' hJ
 clear elJ hJ
 cases m with
 | zero => exact hT'.elim
 | succ m =>
  refine wpE (ht A hid vs' ob' _ { s with heap:=h,toks:=tk } as' _ hA hT' R' fun b h₂ t₂ ob₂ as₂ hk₂ R₂ kp₂ ex₂ => ?_)
  have kw₂:Kw W c as s.heap h₂:=kw.trans kp₂.kw ex
  have ex₂':Ex s.heap as as₂:=ex.trans kw ex₂
  cases b with
  | true =>
   refine wpE (hb A hid vs' ob₂ _ { s with heap:=h₂,toks:=t₂ } as₂ _ hA (hk₂.1 rfl) R₂ fun f h₃ t₃ fl vs₃ ob₃ as₃ hk₃ R₃ hf₃ kw₃ ex₃ => ?_)
   have kw':=kw₂.trans kw₃ ex₂'
   have ex':=ex₂'.trans kw₂ ex₃
   cases fl with
   | next => cases hf₃; exact ⟨m,Nat.lt_succ_self _,mkJ m h₃ t₃ vs₃ ob₃ as₃ R₃ hk₃ kw' ex'⟩
   | cont => cases hf₃; exact ⟨m,Nat.lt_succ_self _,mkJ m h₃ t₃ vs₃ ob₃ as₃ R₃ hk₃ kw' ex'⟩
   | brk => cases hf₃; exact hQ _ h₃ t₃ .next vs₃ ob₃ as₃ hk₃ R₃ rfl kw' ex'
   | ret av =>
    obtain ⟨v,rfl,hv⟩:=hf₃
    exact hQ _ h₃ t₃ (.ret av) vs₃ ob₃ as₃ hk₃ R₃ ⟨v,rfl,hv⟩ kw' ex'
  | false =>
   refine wpE (ho A hid vs' ob₂ k { s with heap:=h₂,toks:=t₂ } as₂ _ hA (hk₂.2 rfl) R₂ fun f h₃ t₃ fl vs₃ ob₃ as₃ hk₃ R₃ hf₃ kw₃ ex₃ => ?_)
   exact hQ _ h₃ t₃ fl vs₃ ob₃ as₃ hk₃ R₃ hf₃ (kw₂.trans kw₃ ex₂') (ex₂'.trans kw₂ ex₃)
noncomputable def iopF (op:Operator) (a b:AV):Option Int :=
 match op with
 | .Add => iiF a b fun x y => some (x + y)
 | .Sub => iiF a b fun x y => some (x - y)
 | .Mult => iiF a b fun x y => if imulNo x y = true then Option.none else some (x * y)
 | .LShift => iiF a b fun x y => if 0 ≤ y ∧ (Builtin.Int.intBits x:Int) + y ≤ 2 ^ 27 then some (x * 2 ^ y.toNat) else Option.none
 | .RShift => iiF a b fun x y => if 0 ≤ y then some (x.fdiv (2 ^ y.toNat)) else Option.none
 | .BitXor => iiF a b fun x y => some (Builtin.bitXor x y)
 | .MatMult => Option.none
 | .Div => Option.none
 | .Mod => Option.none
 | .Pow => Option.none
 | .BitOr => Option.none
 | .BitAnd => Option.none
 | .FloorDiv => Option.none
noncomputable def iop (op:Operator):BOp:=fun a b k => ∃ z,iopF op a b = some z ∧ k (.int z)
theorem iop_ok {op:Operator} {A:Around} {a b:AV} {va vb:Value} {k:AV → Prop} {s:Shared} {G:GP} {Q:Value → Shared → Prop} (hf:iop op a b k) (ha:TV G a va) (hb:TV G b vb)
  (hQ:∀ v tk i t,k (.int i) → v = .int i t → Q v { s with toks:=tk }):wpAny (model W.prog W.w) A (inplaceOp op va vb) Q (fun _ _ => False) s:=by
 obtain ⟨z,e,hk⟩:=hf
 have q:∀ i tk t,i = z → Q (.int i t) { s with toks:=tk }:=fun i tk t e => hQ _ tk i t (e ▸ hk) rfl
 clear hQ hk
 cases op with
 | Add => exact iiE e ha hb fun x t y u e => PyProof.Rows.iadd_int (q _ _ _ (Option.some.inj e))
 | Sub => exact iiE e ha hb fun x t y u e => PyProof.Rows.isub_int (q _ _ _ (Option.some.inj e))
 | Mult => exact iiE e ha hb fun x t y u e => have h:=ifN e; PyProof.Rows.imul_int (hm:=h.1) (q _ _ _ h.2)
 | LShift => exact iiE e ha hb fun x t y u e => have h:=ifS e; ilshift_int h.1.1 h.1.2 (q _ _ _ h.2)
 | RShift => exact iiE e ha hb fun x t y u e => have h:=ifS e; irshift_int h.1 (q _ _ _ h.2)
 | BitXor => exact iiE e ha hb fun x t y u e => ixor_int (q _ _ _ (Option.some.inj e))
 | _ => exact noS e
theorem iop_int {op:Operator} {a b:AV} {k:AV → Prop} (hf:iop op a b k):∃ r,k (.int r) ∧ iop op a b (fun x => x = .int r):=hf.elim fun z h => ⟨z,h.2,z,h.1,rfl⟩
noncomputable def Ld (W:Wd) (c:Cx) (x:Str) (i:Nat):Prop :=
 ∀ (A:Around) (hid:List Addr) (vs:VS) (ob:OB) (s:Shared) (as:AS) (Q:Value → Shared → Prop) (av:AV),getV vs i = some av → Rel W c hid vs ob as s.heap → (∀ v,VV c.isclo (Gh W s.heap (c.av hid as)) as av v → Q v s) →
  wpAny (model W.prog W.w) A (loadName c.env x) Q (fun _ _ => False) s
theorem Ld.mk {x:Str} (i:Nat) (kk:NameKind) (hi:c.env.scope.names[i]? = some (x,kk)) (hl:c.env.scope.names.lookup x = some kk) (hn:(x == ("__classdict__" : Str)) = false)
  (hk:kk = .local ∨ kk = .cell ∨ kk = .free):Ld W c x i:=by
 intro A hid vs ob s as Q av hg R hQ
 obtain ⟨_,m,hm,hv⟩:=R.vars
 obtain ⟨v,hs,hvv⟩:=hv i x kk av hi hg
 rcases hk with rfl | rfl | rfl
 ·exact wpAny_loadName_local R.ok.kind hl hm hs (hQ v hvv)
 ·obtain ⟨cc,e,ic⟩:=hs
  exact wpAny_loadName_cell R.ok.kind hl e ic (hQ v hvv)
 ·obtain ⟨cc,e,ic⟩:=hs
  exact wpAny_loadName_free R.ok.kind hl e ic (hQ v hvv) hn
theorem S.aug {x:Str} {p pos:Pos} {op:Operator} {e:Expr} {T:TE} {i:Nat} (hn:Ld W c x i) (he:E W c e T) (hx:St W c x i) :
  S W c (.AugAssign (.Name x p) op e pos) (fun vs ob k => ∃ a,getV vs i = some a ∧ a.tree = true ∧ T vs ob fun b ob' => b.tree = true ∧ iop op a b fun r => k .next (setV vs i r) ob'):=by
 intro A hid vs ob k s as Q hA ⟨a,hg,hta,hT⟩ R hQ
 refine wpAny_AugAssign_Name (hn A hid vs ob s as _ a hg R fun va hva => ?_)
 refine he A hid vs ob _ s as _ hA hT R fun vb h₁ t₁ b ob₁ as₁ ⟨tb,hf⟩ R₁ hvb kp ex => ?_
 have ta:=(hva.step kp (fun a ha => mem_av_live ha) ex).tree hta
 refine iop_ok hf ta (hvb.tree tb) fun v tk r t hk e => ?_
 subst e
 refine hx A hid vs ob₁ { s with heap:=h₁,toks:=tk } as₁ _ (.int r) _ R₁ (TV.int r t) fun h₂ t₂ R₂ kp₂ _ => ?_
 exact hQ .next h₂ t₂ .next _ _ as₁ hk R₂ rfl (kp.kw.trans (kp₂.more fun a ha => .inl (List.mem_append_left _ ha)) ex) ex
theorem S.expr {e:Expr} {pos:Pos} {T:TE} (he:E W c e T) (hs:swapsWith e none pos.line c.env = pure false):S W c (.Expr e pos) (fun vs ob k => T vs ob fun _ ob' => k .next vs ob'):=by
 intro A hid vs ob k s as Q hA ht R hQ
 have hi:interactive c.env = false:=by
  unfold interactive
  rw [R.ok.kind]; rfl
 exact wpAny_Expr_any (he A hid vs ob _ s as _ hA ht R fun v h₁ t₁ av ob₁ as₁ hk R₁ hv kp ex => hQ .next h₁ t₁ .next _ _ as₁ hk R₁ rfl kp.kw ex) hi hs
noncomputable def setIx (xs:List AV) (i:Int) (y:AV):Option (List AV) :=
 if -(2 ^ 62) ≤ i ∧ i < 2 ^ 62 then (if 0 ≤ i then (if i.toNat < xs.length then some (xs.set i.toNat y) else Option.none)
  else if -(xs.length:Int) ≤ i then some (xs.set (i + xs.length).toNat y) else Option.none) else Option.none
theorem setItem_plain {A:Around} {s:Shared} {l:Addr} {items:Array Value} {i:Int} {t:Tok} {j:Nat} {v:Value} {Q:Unit → Shared → Prop} (hl:s.heap.PlainList l items) (hfit:Builtin.List.listFitsIndex i = true)
  (hj:seqIndex? i items.size = some j) (hlt:j < items.size) (hQ:∀ h',h'.PlainList l (items.setIfInBounds j v) → Heap.SameBut l s.heap h' → Q () { s with heap:=h' }) :
  wpAny (model W.prog W.w) A (setItem (.ref l) (.int i t) v) Q (fun _ _ => False) s:=by
 obtain ⟨n,ho⟩:=hl
 have hT:s.TypeIs (.ref l) "list":=⟨_,ho,rfl⟩
 have upd:(s.heap.update l (Obj.mapSeq (·.setIfInBounds j v))).PlainList l (items.setIfInBounds j v):=⟨_,IsL.update (n:=n) ho _⟩
 unfold setItem
 refine wpAny_holding (wpAny_bind (wpAny_sequenceKey hT (by decide) ?_))
 refine wpAny_bind (wpAny_callSpecial?_slot (name:=Str.ofString "__setitem__") hT slot_list_setitem (wpAny_call_entry slot_list_setitem hT entry_list_setitem ?_ (args_list_setitem _ _ _)))
 show wpAny _ _ (Builtin.List.listSubscript? (.int i t) >>= _) _ _ s
 refine wpAny_bind (wpAny_listSubscript_int hfit ?_)
 have hget:items[j]? = some items[j]:=Array.getElem?_eq_getElem hlt
 cases i with
 | ofNat m =>
  have e:m = j:=by
   by_cases q:m < items.size
   ·have z:=(seqIx (n:=items.size) (i:=Int.ofNat m)).1 (Int.natCast_nonneg m) (by simpa using q)
    rw [hj] at z
    simpa using (Option.some.inj z).symm
   ·unfold seqIndex? at hj
    simp at hj
    omega
  subst e
  show wpAny _ _ ((seqItemAt l m >>= fun r => pure (r.map (m,·))) >>= _) _ _ s
  refine wpAny_bind (wpAny_bind (wpAny_seqItemAt ho rfl (wpAny_pure ?_)))
  rw [hget]
  refine wpAny_bind (wpAny_setSeqItemAt ho rfl ?_)
  first
   | exact wpAny_bind (wpAny_pure (wpAny_pure ⟨.none,rfl,wpAny_pure (hQ _ upd (Heap.SameBut.update ..))⟩))
   | exact wpAny_pure ⟨.none,rfl,wpAny_pure (hQ _ upd (Heap.SameBut.update ..))⟩
 | negSucc m =>
  show wpAny _ _ ((Builtin.List.listItems (.ref l) >>= fun xs => pure ((seqIndex? (Int.negSucc m) xs.size).bind fun i => xs[i]?.map (i,·))) >>= _) _ _ s
  refine wpAny_bind (wpAny_bind ?_)
  show wpAny _ _ (seqItems? (.ref l) >>= _) _ _ s
  refine wpAny_bind (wpAny_seqItems ho rfl (wpAny_pure (wpAny_pure ?_)))
  rw [hj]
  simp only [Option.bind_some,hget,Option.map_some]
  refine wpAny_bind (wpAny_setSeqItemAt ho rfl ?_)
  first
   | exact wpAny_bind (wpAny_pure (wpAny_pure ⟨.none,rfl,wpAny_pure (hQ _ upd (Heap.SameBut.update ..))⟩))
   | exact wpAny_pure ⟨.none,rfl,wpAny_pure (hQ _ upd (Heap.SameBut.update ..))⟩
theorem setIx_ok {xs xs':List AV} {i:Int} {y:AV} (e:setIx xs i y = some xs'):Builtin.List.listFitsIndex i = true ∧ ∃ j,seqIndex? i xs.length = some j ∧ j < xs.length ∧ xs' = xs.set j y:=by
 unfold setIx at e
 split at e
 ·rename_i hb
  refine ⟨by simp [Builtin.List.listFitsIndex]; lia,?_⟩
  split at e
  ·rename_i h0
   split at e
   ·rename_i h1
    cases e
    exact ⟨_,seqIx.1 h0 h1,h1,rfl⟩
   ·cases e
  ·rename_i h0
   split at e
   ·rename_i h1
    cases e
    exact ⟨_,seqIx.2 (by lia) h1,by lia,rfl⟩
   ·cases e
 ·cases e
theorem TVs.one' {G:GP} {x v} (h:TVs G [x] [v]):TV G x v:=by cases h; assumption
theorem storeL {A:Around} {s:Shared} {vs:VS} {ob:OB} {as:AS} {k:Nat} {i:Int} {t:Tok} {xs xs':List AV} {v u:Value} {y:AV} {Q:Unit → Shared → Prop} (R:Rel W c hid vs ob as s.heap) (hv:VV c.isclo (Gh W s.heap (c.av hid as)) as (.loc k) v)
  (ho:ob[k]? = some (.list xs)) (hs:setIx xs i y = some xs') (hy:TV (Gh W s.heap (c.av hid as)) y u)
  (hQ:∀ h',Rel W c hid vs (ob.set k (.list xs')) as h' → Kp W (live as) s.heap h' → Q () { s with heap:=h' }):wpAny (model W.prog W.w) A (setItem v (.int i t) u) Q (fun _ _ => False) s:=by
 obtain ⟨l,⟨L,b⟩,rfl,el⟩:=hv
 obtain ⟨p,ep,us,n,hb,g,tv⟩:=R.objs.2 k _ ho
 rw [el] at ep
 cases ep
 obtain ⟨hf,j,hj,hlt,rfl⟩:=setIx_ok hs
 have hl:xs.length = us.toArray.size:=by rw [tv.length]; simp
 refine setItem_plain (items:=us.toArray) (j:=j) ⟨n,g⟩ hf (by rw [← hl]; exact hj) (by rw [← hl]; exact hlt) fun h' hp hsb => ?_
 obtain ⟨n',hp⟩:=hp
 have e:us.toArray.setIfInBounds j u = (us.set j u).toArray:=by simp
 rw [e] at hp
 obtain ⟨R',kl⟩:=R.put (ao:=.list (xs.set j y)) el hb (fun b o h1 _ e => (hsb.2 b h1).trans e) (fun b hb' => by
  rcases hb' with q | q
  ·rw [q,hp]; rfl
  ·by_cases z:b = l
   ·rw [z,hp]; rfl
   ·rw [hsb.2 b z]; exact (R.base.dis b (mem_av_live (mem_live_of el hb (.inr q)))).2.1) fun kl _ _ tt => ⟨us.set j u,n',hb,hp,(tt _ _ tv).set j ((tt [y] [u] (.one hy)).one')⟩
 exact hQ h' R' kl
theorem getItemL {A:Around} {s:Shared} {vs:VS} {ob:OB} {as:AS} {i:Int} {t:Tok} {xs:List AV} {a x:AV} {v:Value} {Q:Value → Shared → Prop} (R:Rel W c hid vs ob as s.heap) (hv:VV c.isclo (Gh W s.heap (c.av hid as)) as a v)
  (ho:rdL ob a = some xs) (hs:getIx xs i = some x) (hQ:∀ u,TV (Gh W s.heap (c.av hid as)) x u → Q u s):wpAny (model W.prog W.w) A (getItem v (.int i t)) Q (fun _ _ => False) s:=by
 obtain ⟨l,us,n,rfl,g,tv⟩:=rd_ok R.objs hv ho
 obtain ⟨u,tu,b1,b2,q⟩:=getIx_arr tv hs
 have hL:s.heap.IsList l us.toArray:=⟨_,g,rfl,n,rfl⟩
 rcases q with ⟨h0,e1⟩ | ⟨h0,h1,e1⟩
 ·exact wpAny_getItem_list hL h0 b2 (by simpa using e1) (hQ u tu)
 ·exact wpAny_getItem_list_neg hL h0 (by simpa using h1) b1 (by simpa using e1) (hQ u tu)
theorem S.setSub {o i e:Expr} {tp pos:Pos} {Te To Ti:TE} (he:E W c e Te) (ho:E W c o To) (hi:E W c i Ti) (hs:swapsWith e (some (.Subscript o i tp)) pos.line c.env = pure false) :
  S W c (.Assign [.Subscript o i tp] e pos) (fun vs ob k => Te vs ob fun y ob₁ => To vs ob₁ fun a ob₂ => Ti vs ob₂ fun b ob₃ => y.tree = true ∧ ∃ j m xs xs',a = .loc j ∧ b = .int m ∧ ob₃[j]? = some (.list xs) ∧ setIx xs m y = some xs' ∧ k .next vs (ob₃.set j (.list xs'))):=by
 intro A hid vs ob k s as Q hA ht R hQ
 refine wpAny_Assign_Subscript (he A hid vs ob _ s as _ hA ht R fun vy h₁ t₁ y ob₁ as₁ ht₁ R₁ hvy kp₁ ex₁ => ?_) hs
 refine ho.then hA ht₁ R₁ kp₁ ex₁ fun va h₂ t₂ a ob₂ as₂ ht₂ R₂ hva kp₂ ex₂ kp₂' ex₂' => ?_
 refine hi.then hA ht₂ R₂ kp₂' ex₂' fun vb h₃ t₃ b ob₃ as₃ hk R₃ hvb kp₃ ex₃ kp ex => ?_
 obtain ⟨ty,j,m,xs,xs',ea,eb,h1,h2,hk⟩:=hk
 subst ea; subst eb
 have hvb':TV _ (.int m) vb:=hvb
 cases hvb'
 have hva':=hva.step kp₃ (fun a ha => mem_av_live ha) ex₃
 have hvy':=((hvy.step kp₂ (fun a ha => mem_av_live ha) ex₂).step kp₃ (fun a ha => mem_av_live ha) ex₃).tree ty
 refine storeL (s:={ s with heap:=h₃,toks:=t₃ }) R₃ hva' h1 h2 hvy' fun h₄ R₄ kp₄ => ?_
 exact hQ .next h₄ t₃ .next _ _ as₃ hk R₄ rfl (kp.trans kp₄ ex.live).kw ex
theorem S.augSub {o i e:Expr} {tp pos:Pos} {op:Operator} {Te To Ti:TE} (ho:E W c o To) (hi:E W c i Ti) (he:E W c e Te) (hs:∀ ov iv new,augStore i ov iv new = (do holding [new,ov,iv] (setItem ov iv new); release [new,ov,iv] []; pure .next)) :
  S W c (.AugAssign (.Subscript o i tp) op e pos) (fun vs ob k => To vs ob fun a ob₁ => Ti vs ob₁ fun b ob₂ => ∃ j m xs x,a = .loc j ∧ b = .int m ∧ rdL ob₂ a = some xs ∧ getIx xs m = some x ∧ x.tree = true ∧
   Te vs ob₂ fun y ob₃ => y.tree = true ∧ ∃ ys ys' r,iop op x y (fun z => z = .int r) ∧ ob₃[j]? = some (.list ys) ∧ setIx ys m (.int r) = some ys' ∧ k .next vs (ob₃.set j (.list ys'))):=by
 intro A hid vs ob k s as Q hA ht R hQ
 refine wpAny_AugAssign_SubscriptAny (ho A hid vs ob _ s as _ hA ht R fun va h₁ t₁ a ob₁ as₁ ht₁ R₁ hva kp₁ ex₁ => ?_) hs
 refine hi.then hA ht₁ R₁ kp₁ ex₁ fun vb h₂ t₂ b ob₂ as₂ hk R₂ hvb kp₂ ex₂ kp₂' ex₂' => ?_
 obtain ⟨j,m,xs,x,ea,eb,h1,h2,tx,ht₃⟩:=hk
 subst ea; subst eb
 have hvb':TV _ (.int m) vb:=hvb
 cases hvb'
 have hva₂:=hva.step kp₂ (fun a ha => mem_av_live ha) ex₂
 refine getItemL (s:={ s with heap:=h₂,toks:=t₂ }) R₂ hva₂ h1 h2 fun u tu => ?_
 refine he.then hA ht₃ R₂ kp₂' ex₂' fun vy h₃ t₃ y ob₃ as₃ hk R₃ hvy kp₃ ex₃ kp ex => ?_
 obtain ⟨ty,ys,ys',r,hr,h3,h4,hk⟩:=hk
 have tu₃:TV _ x u:=(VV.step (C:=c.isclo) (VV.of tu) kp₃ (fun a ha => mem_av_live ha) ex₃).tree tx
 refine iop_ok hr tu₃ (hvy.tree ty) fun v tk r' t er e => ?_
 cases er
 subst e
 have hva₃:=hva₂.step kp₃ (fun a ha => mem_av_live ha) ex₃
 refine storeL (s:={ s with heap:=h₃,toks:=tk }) R₃ hva₃ h3 h4 (.int ..) fun h₄ R₄ kp₄ => ?_
 exact hQ .next h₄ tk .next _ _ as₃ hk R₄ rfl (kp.trans kp₄ ex.live).kw ex
end
section
variable {W:Wd} {c:Cx} {hid:List Addr}
theorem setV_comm {vs:VS} {i j:Nat} {a b:AV} (h:i ≠ j):setV (setV vs i a) j b = setV (setV vs j b) i a:=by
 unfold setV
 exact List.set_comm _ _ h
theorem S.tup {x y:Str} {px py tp pos:Pos} {kk:Nat} {e:Expr} {T:TE} {i j:Nat} (he:E W c e T) (hx:St W c x i) (hy:St W c y j) (hne:i ≠ j)
  (ha:assignEach [.Name x px,.Name y py] c.env = [(false,PySem.assign (.Name x px) c.env),(false,PySem.assign (.Name y py) c.env)])
  (hs:swapsWithSole [.Tuple [.Name x px,.Name y py] kk tp] e pos.line c.env = pure false)
  (hw:swappedStores [.Tuple [.Name x px,.Name y py] kk tp] e c.env = pure none ∨ swappedStores [.Tuple [.Name x px,.Name y py] kk tp] e c.env = pure (some [x,y])) :
  S W c (.Assign [.Tuple [.Name x px,.Name y py] kk tp] e pos) (fun vs ob k => T vs ob fun av ob' => ∃ a b,av = .tup [a,b] ∧ k .next (setV (setV vs i a) j b) ob'):=by
 intro A hid vs ob k s as Q hA ht R hQ
 rcases hw with hw | hw
 ·refine Assign_Tuple (he A hid vs ob _ s as _ hA ht R fun v h₁ t₁ av ob₁ as₁ hk R₁ hv kp ex => ?_) hs hw
  refine (Tg.pair hx hy ha) A hid vs ob₁ _ { s with heap:=h₁,toks:=t₁ } as₁ _ av v hA hk R₁ hv fun h₂ t₂ vs₂ ob₂ hk₂ R₂ kp₂ => ?_
  exact hQ .next h₂ t₂ .next _ _ as₁ hk₂ R₂ rfl (kp.kw.trans (kp₂.more fun a ha => .inl (List.mem_append_left _ ha)) ex) ex
 ·refine Assign_Tuple_swapped (names:=[x,y]) (he A hid vs ob _ s as _ hA ht R fun v h₁ t₁ av ob₁ as₁ hk R₁ hv kp ex => ?_) hs hw
  obtain ⟨a,b,ea,hk⟩:=hk
  subst ea
  have t:TV _ (.tup [a,b]) v:=hv
  cases t
  rename_i us l n g t
  cases t
  rename_i u us tu t
  cases t
  rename_i u' us tu' t
  cases t
  refine unpackItems_tuple (items:=#[u,u']) hA.1 ⟨_,g.1,rfl,n,rfl⟩ fun h₂ he₂ => ?_
  have gr:∀ b o,h₁.get? b = some o → h₂.get? b = some o:=fun b o e => he₂ b o (Nat.ne_of_lt (Heap.lt_size e)) e
  have R₂:=R₁.grow gr
  show wpAny _ A (do holding [u] (bindName c.env y u'); assignInOrder [bindName c.env x] [u]) _ _ _
  refine wpAny_bind (wpAny_holding (bindName_ (hy A hid vs ob₁ { s with heap:=h₂,toks:=t₁ } as₁ _ b u' R₂ (VV.of (tu'.grow gr)) fun h₃ t₃ R₃ kp₃ _ => ?_)))
  show wpAny _ A (do holding [] (bindName c.env x u); assignInOrder [] []) _ _ _
  have tu2:TV (Gh W h₃ (c.av hid as₁)) a u:=(tu.grow gr).kp kp₃ (fun a ha => .inl (mem_av_own ha)) (fun a ha => .inl ha)
  refine wpAny_bind (wpAny_holding (bindName_ (hx A hid _ ob₁ { s with heap:=h₃,toks:=t₃ } as₁ _ a u R₃ (VV.of tu2) fun h₄ t₄ R₄ kp₄ _ => ?_)))
  rw [← setV_comm hne] at R₄
  refine wpAny_pure (hQ .next h₄ t₄ .next _ _ as₁ hk R₄ rfl ?_ ex)
  have k₂:Kw W c as₁ h₁ h₄:=(((Kp.grow gr c.own).trans kp₃ fun a ha => .inl ha).trans kp₄ fun a ha => .inl ha).more fun a ha => .inl (List.mem_append_left _ ha)
  exact kp.kw.trans k₂ ex
theorem orIf {α:Type} {p:Prop} {_:Decidable p} {a b N S:α} (h1:p → a = N ∨ a = S) (h2:¬p → b = N ∨ b = S):(if p then a else b) = N ∨ (if p then a else b) = S:=by
 by_cases q:p
 ·rw [if_pos q]; exact h1 q
 ·rw [if_neg q]; exact h2 q
theorem iteOr {α:Type} {p:Prop} {_:Decidable p} {x:α}:(if p then some x else Option.none) = some x ∨ (if p then some x else Option.none) = Option.none:=orIf (fun _ => .inl rfl) fun _ => .inr rfl
theorem names2 {f:Expr → Option Str} {a b:Expr} {x y:Str} (ha:f a = some x ∨ f a = Option.none) (hb:f b = some y ∨ f b = Option.none) {q:Bool} (h:¬((List.filterMap f [a,b]).length != 2 || q) = true):List.filterMap f [a,b] = [x,y]:=by
 rw [List.filterMap_cons,List.filterMap_cons,List.filterMap_nil] at h ⊢
 rcases ha with ha | ha <;> rcases hb with hb | hb <;> rw [ha,hb] at h ⊢ <;> first | rfl | exact absurd rfl h
theorem swapped_tup {x y:Str} {px py tp p:Pos} {kk k:Nat} {vs:List Expr} {env:Env} (hv:vs.all (constantsAlone 8) = false) :
  swappedStores [.Tuple [.Name x px,.Name y py] kk tp] (.Tuple vs k p) env = pure none ∨ swappedStores [.Tuple [.Name x px,.Name y py] kk tp] (.Tuple vs k p) env = pure (some [x,y]) :=
 orIf (fun _ => .inl rfl) fun _ => orIf (fun _ => .inl rfl) fun _ => orIf (fun _ => .inl rfl) fun q => orIf (fun _ => .inl rfl) fun _ => orIf (fun z => absurd (z.symm.trans hv) Bool.noConfusion) fun _ => .inr (congrArg (fun l => pure (some l)) (names2 iteOr iteOr q))
theorem swapped_cases {x y:Str} {px py tp:Pos} {kk:Nat} {e:Expr} {env:Env} (hv:∀ vs k p,e = .Tuple vs k p → vs.all (constantsAlone 8) = false) :
  swappedStores [.Tuple [.Name x px,.Name y py] kk tp] e env = pure none ∨ swappedStores [.Tuple [.Name x px,.Name y py] kk tp] e env = pure (some [x,y]):=by
 cases e with
 | Tuple vs k p => exact swapped_tup (hv vs k p rfl)
 | _ => exact .inl rfl
theorem S.three {x y z:Str} {px py pz pos:Pos} {e:Expr} {T:TE} {i j l:Nat} (he:E W c e T) (hx:St W c x i) (hy:St W c y j) (hz:St W c z l)
  (ha:(assignEach [.Name x px,.Name y py,.Name z pz] c.env).map (·.2) = [PySem.assign (.Name x px) c.env,PySem.assign (.Name y py) c.env,PySem.assign (.Name z pz) c.env])
  (hw:swappedStores [.Name x px,.Name y py,.Name z pz] e c.env = pure none) :
  S W c (.Assign [.Name x px,.Name y py,.Name z pz] e pos) (fun vs ob k => T vs ob fun av ob' => av.tree = true ∧ k .next (setV (setV (setV vs i av) j av) l av) ob'):=by
 intro A hid vs ob k s as Q hA ht R hQ
 refine wpAny_Assign_three (he A hid vs ob _ s as _ hA ht R fun v h₁ t₁ av ob₁ as₁ ⟨tr,hk⟩ R₁ hv kp ex => ?_) ha hw
 have tv:=hv.tree tr
 refine wpAny_assign_Name (hx A hid vs ob₁ { s with heap:=h₁,toks:=t₁ } as₁ _ av v R₁ hv fun h₂ t₂ R₂ kp₂ _ => ?_)
 have tv₂:TV (Gh W h₂ (c.av hid as₁)) av v:=tv.kp kp₂ (fun a ha => .inl (mem_av_own ha)) (fun a ha => .inl ha)
 refine wpAny_assign_Name (hy A hid _ ob₁ { s with heap:=h₂,toks:=t₂ } as₁ _ av v R₂ (VV.of tv₂) fun h₃ t₃ R₃ kp₃ _ => ?_)
 have tv₃:TV (Gh W h₃ (c.av hid as₁)) av v:=tv₂.kp kp₃ (fun a ha => .inl (mem_av_own ha)) (fun a ha => .inl ha)
 refine wpAny_assign_Name (hz A hid _ ob₁ { s with heap:=h₃,toks:=t₃ } as₁ _ av v R₃ (VV.of tv₃) fun h₄ t₄ R₄ kp₄ _ => ?_)
 have k₂:Kw W c as₁ h₁ h₄:=((kp₂.trans kp₃ fun a ha => .inl ha).trans kp₄ fun a ha => .inl ha).more fun a ha => .inl (List.mem_append_left _ ha)
 exact hQ .next h₄ t₄ .next _ _ as₁ hk R₄ rfl (kp.kw.trans k₂ ex) ex
end
section
variable {W:Wd} {c:Cx} {hid:List Addr}
noncomputable def AO.tr (ob:OB) (k:Nat):AO → Option (AV × OB)
 | .list xs => some (.lst xs,ob.set k (.frz xs))
 | .frz xs => some (.lst xs,ob)
 | .inst cls ns xs => if ns.length = 0 ∨ xs.length = 0 ∨ trees xs = false then Option.none else some (.inst cls ns xs,ob.set k (.ifrz cls ns xs))
 | .ifrz cls ns xs => some (.inst cls ns xs,ob)
noncomputable def tr (ob:OB):AV → Option (AV × OB)
 | .loc k => ob[k]?.bind (AO.tr ob k)
 | .clo _ => Option.none
 | a => some (a,ob)
theorem fld_cons {n:Str} {ns:List Str} {u:Value} {us:List Value}:fld (n :: ns) (u :: us) n = some u:=by
 unfold fld; simp
theorem inst_tv {h:Heap} {av av':List Addr} {as:AS} {l:Addr} {L:List Addr} {cls:Addr} {ns:List Str} {xs:List AV} {us:List Value} {m:Str → Option Value} (I:h.Inst l cls m) (hd:∃ o d,h.get? l = some o ∧ o.dict = some d ∧ d ∈ L) (hm:∀ y,m y = fld ns us y) (vv:VVs noC (Gh W h av) as xs us)
  (hne:¬(ns.length = 0 ∨ xs.length = 0 ∨ trees xs = false)) (out:∀ a,a = l ∨ a ∈ L → a ∉ av' ∧ a ∉ W.tP) (up:∀ a' o,Gh W h av a' o → Gh W h av' a' o):TV (Gh W h av') (.inst cls ns xs) (.ref l):=by
 have hne:=not_or.mp hne
 have hne2:=not_or.mp hne.2
 obtain ⟨o,e,c1,c2,r⟩:=I
 rcases r with ⟨_,hn⟩ | ⟨d,ed,hne',od,es,ep,ho,r1,r2,r3,r4⟩
 ·cases ns with
  | nil => exact absurd rfl hne.1
  | cons n ns =>
   cases us with
   | nil => exact absurd vv.length hne2.1
   | cons u us => exact noO (hn n) ((hm n).trans fld_cons)
 ·obtain ⟨o',d',e',ed',hd'⟩:=hd
  obtain rfl:=Option.some.inj (e.symm.trans e')
  exact .inst (d:=d) ⟨e,out l (.inl rfl)⟩ c1 c2 ed hne' ⟨ho,out d (.inr (Option.some.inj (ed'.symm.trans ed) ▸ hd'))⟩ ⟨es,ep,r1,r2,r3,r4⟩ hm ((vv.tvs (Bool.not_eq_false _ ▸ hne2.2)).mono up)
theorem AO.tr_ok {vs:VS} {ob ob':OB} {as:AS} {h:Heap} {k:Nat} {o:AO} {b:AV} {p:Own} (R:Rel W c hid vs ob as h) (el:as[k]? = some p) (r:AOis W (c.av hid as) as h o p) (e:AO.tr ob k o = some (b,ob')) :
  ∃ as',Rel W c hid vs ob' as' h ∧ Ex h as as' ∧ TV (Gh W h (c.av hid as')) b (.ref p.1):=by
 cases o with
 | list xs =>
  obtain ⟨rfl,rfl⟩:=Prod.mk.inj (Option.some.inj e)
  obtain ⟨us,n,hb,g,tv⟩:=r
  have q:=R.freeze (ao':=.frz xs) el hb fun out up => ⟨rfl,.lst ⟨g,out p.1 (.inl rfl)⟩ (tv.mono up)⟩
  exact ⟨_,q.1,q.2.1,.lst ⟨g,q.2.2.2 p.1 (.inl rfl)⟩ (tv.mono q.2.2.1)⟩
 | inst cls ns xs =>
  obtain ⟨hne,e⟩:=ifN e
  obtain ⟨rfl,rfl⟩:=Prod.mk.inj e
  obtain ⟨us,m,hb,I,hd,hm,vv⟩:=r
  have q:=R.freeze (ao':=.ifrz cls ns xs) el hb fun out up => ⟨rfl,inst_tv I hd hm vv hne out up⟩
  exact ⟨_,q.1,q.2.1,inst_tv I hd hm vv hne q.2.2.2 q.2.2.1⟩
 | frz xs => obtain ⟨rfl,rfl⟩:=Prod.mk.inj (Option.some.inj e); exact ⟨as,R,.refl,r.2⟩
 | ifrz cls ns xs => obtain ⟨rfl,rfl⟩:=Prod.mk.inj (Option.some.inj e); exact ⟨as,R,.refl,r.2⟩
theorem tr_ok {vs:VS} {ob ob':OB} {as:AS} {h:Heap} {a b:AV} {v:Value} (R:Rel W c hid vs ob as h) (hv:VV c.isclo (Gh W h (c.av hid as)) as a v) (e:tr ob a = some (b,ob')) :
  ∃ as',Rel W c hid vs ob' as' h ∧ Ex h as as' ∧ TV (Gh W h (c.av hid as')) b v:=by
 cases a
 case loc k =>
  obtain ⟨l,⟨L,fb⟩,rfl,el⟩:=hv
  exact bindE e fun o q e => (R.objs.2 k _ q).elim fun p x => by
   obtain rfl:=Option.some.inj (el.symm.trans x.1)
   exact AO.tr_ok R el x.2 e
 case clo i => exact noS e
 all_goals (obtain ⟨rfl,rfl⟩:=Prod.mk.inj (Option.some.inj e); exact ⟨as,R,.refl,hv⟩)
theorem AO.tr_tree {ob ob':OB} {k:Nat} {o:AO} {b:AV} (e:AO.tr ob k o = some (b,ob')):b.tree = true:=by
 cases o with
 | inst cls ns xs => exact (Prod.mk.inj (ifN e).2).1 ▸ rfl
 | _ => exact (Prod.mk.inj (Option.some.inj e)).1 ▸ rfl
theorem tr_tree {ob ob':OB} {a b:AV} (e:tr ob a = some (b,ob')):b.tree = true:=by
 cases a
 case loc k => exact bindE e fun o _ e => AO.tr_tree e
 case clo i => exact noS e
 all_goals exact (Prod.mk.inj (Option.some.inj e)).1 ▸ rfl
theorem E.frz {e:Expr} {T:TE} (h:E W c e T):E W c e (fun vs ob k => T vs ob fun a ob' => ∃ b ob'',tr ob' a = some (b,ob'') ∧ k b ob''):=by
 intro A hid vs ob k s as Q hA ht R hQ
 refine h A hid vs ob _ s as _ hA ht R fun v h₁ t₁ a ob₁ as₁ ⟨b,ob₂,e,hk⟩ R₁ hv kp ex => ?_
 obtain ⟨as₂,R₂,ex₂,t⟩:=tr_ok R₁ hv e
 exact hQ v h₁ t₁ b ob₂ as₂ hk R₂ (VV.of t) kp (ex.trans kp ex₂)
theorem E.mono {e:Expr} {T T':TE} (h:E W c e T) (hT:∀ vs ob k,T' vs ob k → T vs ob k):E W c e T':=fun A hid vs ob k s as Q hA ht R hQ => h A hid vs ob k s as Q hA (hT _ _ _ ht) R hQ
theorem Es.mono {e:List Expr} {T T':TEs} (h:Es W c e T) (hT:∀ vs ob k,T' vs ob k → T vs ob k):Es W c e T':=fun A hid vs ob k s as pos Q hA ht R hQ => h A hid vs ob k s as pos Q hA (hT _ _ _ ht) R hQ
theorem Run.mono {t:Sem Flow} {T T':TS} (h:Run W c t T) (hT:∀ vs ob k,T' vs ob k → T vs ob k):Run W c t T':=fun A hid vs ob k s as Q hA ht R hQ => h A hid vs ob k s as Q hA (hT _ _ _ ht) R hQ
theorem Is.mono {e:Expr} {T T':TB} (h:Is W c e T) (hT:∀ vs ob k,T' vs ob k → T vs ob k):Is W c e T':=fun A hid vs ob k s as Q hA ht R hQ => h A hid vs ob k s as Q hA (hT _ _ _ ht) R hQ
theorem It.mono {e:Expr} {T T':TI} (h:It W c e T) (hT:∀ vs ob k,T' vs ob k → T vs ob k):It W c e T':=fun A hid vs ob k s as Q hA ht R hQ => h A hid vs ob k s as Q hA (hT _ _ _ ht) R hQ
theorem E.of {e:Expr} {T:TE} (h:∀ vs ob k,T vs ob k → ∃ T',T' vs ob k ∧ E W c e T'):E W c e T:=fun A hid vs ob k s as Q hA ht R hQ => by
 obtain ⟨T',ht',h'⟩:=h vs ob k ht
 exact h' A hid vs ob k s as Q hA ht' R hQ
theorem Es.of {e:List Expr} {T:TEs} (h:∀ vs ob k,T vs ob k → ∃ T',T' vs ob k ∧ Es W c e T'):Es W c e T:=fun A hid vs ob k s as pos Q hA ht R hQ => by
 obtain ⟨T',ht',h'⟩:=h vs ob k ht
 exact h' A hid vs ob k s as pos Q hA ht' R hQ
theorem Run.of {t:Sem Flow} {T:TS} (h:∀ vs ob k,T vs ob k → ∃ T',T' vs ob k ∧ Run W c t T'):Run W c t T:=fun A hid vs ob k s as Q hA ht R hQ => by
 obtain ⟨T',ht',h'⟩:=h vs ob k ht
 exact h' A hid vs ob k s as Q hA ht' R hQ
theorem Is.of {e:Expr} {T:TB} (h:∀ vs ob k,T vs ob k → ∃ T',T' vs ob k ∧ Is W c e T'):Is W c e T:=fun A hid vs ob k s as Q hA ht R hQ => by
 obtain ⟨T',ht',h'⟩:=h vs ob k ht
 exact h' A hid vs ob k s as Q hA ht' R hQ
theorem It.of {e:Expr} {T:TI} (h:∀ vs ob k,T vs ob k → ∃ T',T' vs ob k ∧ It W c e T'):It W c e T:=fun A hid vs ob k s as Q hA ht R hQ => by
 obtain ⟨T',ht',h'⟩:=h vs ob k ht
 exact h' A hid vs ob k s as Q hA ht' R hQ
end
section
variable {W:Wd} {c:Cx} {hid:List Addr}
noncomputable def pick {α:Type} (xs:List α) (lo hi:Option Int):List α :=
 (sliceRange (sliceBounds lo hi none xs.length).1 (sliceBounds lo hi none xs.length).2.1 (sliceBounds lo hi none xs.length).2.2).filterMap (xs[·]?)
theorem TVs.filterMap {G:GP} {xs vs} (t:TVs G xs vs):∀ (l:List Nat),TVs G (l.filterMap (xs[·]?)) (l.filterMap (vs[·]?))
 | [] => .nil
 | i :: l => by
  rw [List.filterMap_cons,List.filterMap_cons]
  have ih:=TVs.filterMap t l
  cases e:xs[i]? with
  | none =>
   have:vs[i]? = none:=by
    rw [List.getElem?_eq_none_iff] at e ⊢
    rw [← t.length]; exact e
   simp only [this]
   exact ih
  | some x =>
   obtain ⟨v,e',tv⟩:=t.get e
   simp only [e']
   exact .cons tv ih
theorem pick_ok {G:GP} {xs vs lo hi} (t:TVs G xs vs):TVs G (pick xs lo hi) (slicePick vs.toArray lo hi none).toList:=by
 unfold pick slicePick
 have:(vs.toArray.size) = xs.length:=by rw [t.length]; simp
 rw [this]
 simpa using t.filterMap _
noncomputable abbrev TP:=VS → OB → (Option Int → OB → Prop) → Prop
noncomputable def Pt (W:Wd) (c:Cx) (x:Option Expr) (T:TP):Prop :=
 ∀ (A:Around) (hid:List Addr) (vs:VS) (ob:OB) (k:Option Int → OB → Prop) (s:Shared) (as:AS) (Q:Value → Shared → Prop),
  OkA c.d A → T vs ob k → Rel W c hid vs ob as s.heap →
  (∀ (v:Value) (h':Heap) (tk:Nat) (p:Option Int) (ob':OB) (as':AS),k p ob' → Rel W c hid vs ob' as' h' → IsPart v p → Kp W (live as) s.heap h' → Ex s.heap as as' → Q v { s with heap:=h',toks:=tk }) →
  wpAny (model W.prog W.w) A (evalPart x c.env) Q (fun _ _ => False) s
theorem Pt.none:Pt W c none (fun _ ob k => k none ob):=fun _ _ _ _ _ s as _ _ hk R hQ =>
 evalPart_none_step (hQ _ s.heap s.toks _ _ as hk R .none Kp.refl .refl)
theorem Pt.some {e:Expr} {T:TE} (h:E W c e T):Pt W c (some e) (fun vs ob k => T vs ob fun a ob' => ∃ i,a = .int i ∧ k (some i) ob'):=by
 intro A hid vs ob k s as Q hA ht R hQ
 refine evalPart_some_step (h A hid vs ob _ s as _ hA ht R fun v h₁ t₁ a ob₁ as₁ hk R₁ hv kp ex => ?_)
 obtain ⟨i,e,hk⟩:=hk
 subst e
 have t:TV _ (.int i) v:=hv
 cases t
 exact hQ _ h₁ t₁ _ ob₁ as₁ hk R₁ (.int i _) kp ex
theorem sliceCore {value:Expr} {lo hi:Option Expr} {p pos:Pos} {Tv:TE} {Tl Tu:TP} (hv:E W c value Tv) (hl:Pt W c lo Tl) (hu:Pt W c hi Tu)
  {A:Around} {vs:VS} {ob:OB} {k:AV → Option Int → Option Int → OB → Prop} {s:Shared} {as:AS} {Q:Value → Shared → Prop} (hA:OkA c.d A) (ht:Tv vs ob fun a ob₁ => Tl vs ob₁ fun l ob₂ => Tu vs ob₂ fun u ob₃ => k a l u ob₃) (R:Rel W c hid vs ob as s.heap)
  (hQ:∀ (h':Heap) (tk:Nat) (v:Value) (a:AV) (l u:Option Int) (ob':OB) (as':AS),k a l u ob' → Rel W c hid vs ob' as' h' → VV c.isclo (Gh W h' (c.av hid as')) as' a v → Kp W (live as) s.heap h' → Ex s.heap as as' →
   ∃ xs,rdL ob' a = some xs ∧ xs.length ≤ sizeLine ∧ ∀ us n,TVs (Gh W h' (c.av hid as')) (pick xs l u) us → Q (.ref h'.objs.size) { s with heap:=h'.push (lstO us n),toks:=tk }) :
  wpAny (model W.prog W.w) A (eval (.Subscript value (.Slice lo hi none p) pos) c.env) Q (fun _ _ => False) s:=by
 refine Subscript_ (hv A hid vs ob _ s as _ hA ht R fun va h₁ t₁ a ob₁ as₁ ht₁ R₁ hva kp₁ ex₁ => ?_)
 refine wpAny_Slice (hl A hid vs ob₁ _ { s with heap:=h₁,toks:=t₁ } as₁ _ hA ht₁ R₁ fun vl h₂ t₂ l ob₂ as₂ ht₂ R₂ pl kp₂ ex₂ => ?_)
 refine hu A hid vs ob₂ _ { s with heap:=h₂,toks:=t₂ } as₂ _ hA ht₂ R₂ fun vu h₃ t₃ u ob₃ as₃ hk R₃ pu kp₃ ex₃ => ?_
 refine evalPart_none_step ?_
 have hva₃:=(hva.step kp₂ (fun a ha => mem_av_live ha) ex₂).step kp₃ (fun a ha => mem_av_live ha) ex₃
 have kp:=(kp₁.trans kp₂ ex₁.live).trans kp₃ (ex₁.trans kp₁ ex₂).live
 have ex:=(ex₁.trans kp₁ ex₂).trans (kp₁.trans kp₂ ex₁.live) ex₃
 let O:Obj:={ cls:=.type "slice",data:=.fields #[vl,vu,.none] }
 have g:∀ b o,h₃.get? b = some o → (h₃.push O).get? b = some o:=push_grow _ _
 have R₄:=R₃.grow g
 have hva₄:=hva₃.step (l:=[]) (Kp.grow g _) (fun _ ha => nomatch ha) .refl
 obtain ⟨xs,e,hsz,hq⟩:=hQ (h₃.push O) t₃ va a l u ob₃ as₃ hk R₄ hva₄ (kp.trans (Kp.grow g []) fun _ ha => nomatch ha) ex
 obtain ⟨ll,us,n,rfl,gl,tv⟩:=rd_ok R₄.objs hva₄ e
 have hL:(h₃.push O).IsList ll us.toArray:=⟨_,gl,rfl,n,rfl⟩
 refine tail_any (T:="list") ⟨_,gl,rfl⟩ slot_list_getitem.lookup (ops:=[.ref h₃.objs.size,.ref ll]) ?_ rfl
 have hsz':us.toArray.size ≤ sizeLine:=by rw [List.size_toArray,← tv.length]; exact hsz
 refine wpAny_getItem_list_slice (s:={ s with heap:=h₃.push O,toks:=t₃ }) (lo:=l) (hi:=u) (st:=none) hL (Heap.IsSliceOf.new ..) pl pu .none (by simp) ?_ hsz'
 exact hq _ 0 (pick_ok tv)
theorem E.slice {value:Expr} {lo hi:Option Expr} {p pos:Pos} {Tv:TE} {Tl Tu:TP} (hv:E W c value Tv) (hl:Pt W c lo Tl) (hu:Pt W c hi Tu) :
  E W c (.Subscript value (.Slice lo hi Option.none p) pos) (fun vs ob k => Tv vs ob fun a ob₁ => Tl vs ob₁ fun l ob₂ => Tu vs ob₂ fun u ob₃ => ∃ xs,rdL ob₃ a = some xs ∧ xs.length ≤ sizeLine ∧ k (.lst (pick xs l u)) ob₃):=by
 intro A hid vs ob k s as Q hA ht R hQ
 refine sliceCore hv hl hu hA ht R fun h' tk v a l u ob' as' ⟨xs,e,hsz,hk⟩ R' hv' kp ex => ⟨xs,e,hsz,fun us n t => ?_⟩
 exact hQ _ _ tk _ ob' as' hk (R'.grow (push_grow _ _)) (VV.of (TV.newLst (n:=n) R'.base t)) (kp.trans (Kp.grow (push_grow _ _) []) fun _ ha => nomatch ha) ex
theorem E.mslice {value:Expr} {lo hi:Option Expr} {p pos:Pos} {Tv:TE} {Tl Tu:TP} (hv:E W c value Tv) (hl:Pt W c lo Tl) (hu:Pt W c hi Tu) :
  E W c (.Subscript value (.Slice lo hi Option.none p) pos) (fun vs ob k => Tv vs ob fun a ob₁ => Tl vs ob₁ fun l ob₂ => Tu vs ob₂ fun u ob₃ => ∃ xs,rdL ob₃ a = some xs ∧ xs.length ≤ sizeLine ∧ k (.loc ob₃.length) (ob₃ ++ [.list (pick xs l u)])):=by
 intro A hid vs ob k s as Q hA ht R hQ
 refine sliceCore hv hl hu hA ht R fun h' tk v a l u ob' as' ⟨xs,e,hsz,hk⟩ R' hv' kp ex => ⟨xs,e,hsz,fun us n t => ?_⟩
 obtain ⟨R₂,ex₂,kp₂⟩:=R'.newObj (n:=n) t
 exact hQ _ _ tk _ _ _ hk R₂ ⟨_,([],true),rfl,by rw [← R'.objs.1]; simp⟩ (kp.trans kp₂ ex.live) (ex.trans kp ex₂)
end
section
set_option backward.match.sparseCases false
variable {W:Wd} {c:Cx} {hid:List Addr}
noncomputable abbrev BF:=List AV → OB → Option (AV × OB)
noncomputable def runF (f:BF):TF:=fun avs ob k => match f avs ob with | some (a,ob') => k a ob' | Option.none => False
theorem runF_of {f:BF} {avs:List AV} {ob:OB} {k:AV → OB → Prop} (h:runF f avs ob k):∃ a ob',f avs ob = some (a,ob') ∧ k a ob':=by
 unfold runF at h
 cases e:f avs ob with
 | none => rw [e] at h; exact h.elim
 | some p => rw [e] at h; exact ⟨p.1,p.2,rfl,h⟩
theorem runF_to {f:BF} {avs:List AV} {ob ob':OB} {a:AV} {k:AV → OB → Prop} (e:f avs ob = some (a,ob')) (h:k a ob'):runF f avs ob k:=by
 unfold runF; rw [e]; exact h
theorem VVs.one {C} {G:GP} {as:AS} {x us} (h:VVs C G as [x] us):∃ u,us = [u] ∧ VV C G as x u:=by
 cases h with
 | cons t ts => cases ts; exact ⟨_,rfl,t⟩
theorem VVs.two {C} {G:GP} {as:AS} {x y us} (h:VVs C G as [x,y] us):∃ u v,us = [u,v] ∧ VV C G as x u ∧ VV C G as y v:=by
 cases h with
 | cons t ts => obtain ⟨v,rfl,tv⟩:=ts.one; exact ⟨_,v,rfl,t,tv⟩
theorem VV.int {C} {G:GP} {as:AS} {i v} (h:VV C G as (.int i) v):∃ t,v = .int i t:=TV.intE (P:=fun v => ∃ t,v = .int i t) h fun t => ⟨t,rfl⟩
theorem VV.str {C} {G:GP} {as:AS} {i v} (h:VV C G as (.str i) v):∃ t,v = .str i t:=TV.strE (P:=fun v => ∃ t,v = .str i t) h fun t => ⟨t,rfl⟩
theorem VV.tup {C} {G:GP} {as:AS} {xs v} (h:VV C G as (.tup xs) v):∃ us l n,v = .ref l ∧ G l (tupO us n) ∧ TVs G xs us:=TV.tupE (P:=fun v => ∃ us l n,v = .ref l ∧ G l (tupO us n) ∧ TVs G xs us) h fun l us n g t => ⟨us,l,n,rfl,g,t⟩
theorem VV.lst {C} {G:GP} {as:AS} {xs v} (h:VV C G as (.lst xs) v):∃ us l n,v = .ref l ∧ G l (lstO us n) ∧ TVs G xs us:=TV.lstE (P:=fun v => ∃ us l n,v = .ref l ∧ G l (lstO us n) ∧ TVs G xs us) h fun l us n g t => ⟨us,l,n,rfl,g,t⟩
noncomputable def AV.c?:AV → Option Value
 | .cst v => some v
 | _ => Option.none
theorem AV.cI {a:AV} {i:Value}:a.c? = some i → a = .cst i:=by cases a <;> first | exact noS | exact fun h => congrArg AV.cst (Option.some.inj h)
noncomputable def rf?:Value → Option Addr
 | .ref a => some a
 | _ => none
theorem rfI {v:Value} {a:Addr}:rf? v = some a → v = .ref a:=by cases v <;> first | exact noS | exact fun h => congrArg Value.ref (Option.some.inj h)
theorem VV.cst {C} {G:GP} {as:AS} {c v} (h:VV C G as (.cst c) v):v = c:=by
 have t:TV G (.cst c) v:=h
 cases t; rfl
noncomputable def AV.k?:AV → Option Nat
 | .loc v => some v
 | _ => Option.none
theorem AV.kI {a:AV} {i:Nat}:a.k? = some i → a = .loc i:=by cases a <;> first | exact noS | exact fun h => congrArg AV.loc (Option.some.inj h)
noncomputable def AO.l?:AO → Option (List AV)
 | .list xs => some xs
 | _ => Option.none
theorem AO.lI {o:AO} {q:List AV}:o.l? = some q → o = .list q:=by cases o <;> first | exact noS | exact fun h => Option.some.inj h ▸ rfl
theorem Fn.tree {fv:Value} {f:BF} {d:Nat} (h:∀ (A:Around) (c:Cx) (hid:List Addr) (vs:VS) (ob:OB) (s:Shared) (as:AS) (Q:Value → Shared → Prop) (avs:List AV) (us:List Value) (a:AV) (ob':OB),
  OkA d A → f avs ob = some (a,ob') → Rel W c hid vs ob as s.heap → VVs c.isclo (Gh W s.heap (c.av hid as)) as avs us →
  ob' = ob ∧ ((∀ (v:Value) (h':Heap) (tk:Nat),(∀ b o,s.heap.get? b = some o → h'.get? b = some o) → TV (Gh W h' (c.av hid as)) a v → Q v { s with heap:=h',toks:=tk }) → wpAny (model W.prog W.w) A (call fv us) Q (fun _ _ => False) s)) :
  Fn W d fv (runF f):=by
 intro A c hid vs ob k s as Q avs us hA ht R hv hQ
 obtain ⟨a,ob',e,hk⟩:=runF_of ht
 obtain ⟨rfl,hw⟩:=h A c hid vs ob s as Q avs us a ob' hA e R hv
 exact hw fun v h' tk g t => hQ v h' tk a ob' as hk (R.grow g) (VV.of t) (Kp.grow g _) .refl
noncomputable def m1 (f:AV → OB → Option (AV × OB)):BF
 | [a],ob => f a ob
 | _,_ => Option.none
noncomputable def m2 (f:AV → AV → OB → Option (AV × OB)):BF
 | [a,b],ob => f a b ob
 | _,_ => Option.none
theorem m1E {f:AV → OB → Option (AV × OB)} {avs:List AV} {ob:OB} {r} (h:m1 f avs ob = some r):∃ a,avs = [a] ∧ f a ob = some r:=by
 rcases avs with _ | ⟨a,_ | ⟨b,l⟩⟩
 ·exact noS h
 ·exact ⟨a,rfl,h⟩
 ·exact noS h
theorem m2E {f:AV → AV → OB → Option (AV × OB)} {avs:List AV} {ob:OB} {r} (h:m2 f avs ob = some r):∃ a b,avs = [a,b] ∧ f a b ob = some r:=by
 rcases avs with _ | ⟨a,_ | ⟨b,_ | ⟨c,l⟩⟩⟩
 ·exact noS h
 ·exact noS h
 ·exact ⟨a,b,rfl,h⟩
 ·exact noS h
noncomputable def m3 (f:AV → AV → AV → OB → Option (AV × OB)):BF
 | [a,b,c],ob => f a b c ob
 | _,_ => Option.none
theorem m3E {f:AV → AV → AV → OB → Option (AV × OB)} {avs:List AV} {ob:OB} {r} (h:m3 f avs ob = some r):∃ a b c,avs = [a,b,c] ∧ f a b c ob = some r:=by
 rcases avs with _ | ⟨a,_ | ⟨b,_ | ⟨c,_ | ⟨d,l⟩⟩⟩⟩
 ·exact noS h
 ·exact noS h
 ·exact noS h
 ·exact ⟨a,b,c,rfl,h⟩
 ·exact noS h
noncomputable def p1 {α:Type} (g:AV → Option α) (f:α → Option AV):BF:=m1 fun a ob => (g a).bind fun x => (f x).map fun z => (z,ob)
noncomputable def p2 {α β:Type} (g:AV → Option α) (g':AV → Option β) (f:α → β → Option AV):BF:=m2 fun a b ob => (g a).bind fun x => (g' b).bind fun y => (f x y).map fun z => (z,ob)
noncomputable def Reads {α:Type} (g:AV → Option α) (V:CP → GP → AS → α → Value → Prop):Prop:=∀ {C:CP} {G:GP} {as:AS} {a:AV} {x:α} {u:Value},g a = some x → VV C G as a u → V C G as x u
theorem rInt:Reads AV.i? fun _ _ _ i u => ∃ t,u = .int i t:=fun e h => VV.int (AV.iI e ▸ h)
theorem rStr:Reads AV.s? fun _ _ _ i u => ∃ t,u = .str i t:=fun e h => VV.str (AV.sI e ▸ h)
theorem rLst:Reads AV.l? fun _ G _ xs u => ∃ us l n,u = .ref l ∧ G l (lstO us n) ∧ TVs G xs us:=fun e h => VV.lst (AV.lI e ▸ h)
theorem rRef:Reads (fun a => a.c?.bind rf?) fun _ _ _ p u => u = .ref p:=fun e h => bindE e fun _ e1 e2 => (VV.cst (AV.cI e1 ▸ h)).trans (rfI e2)
theorem rAny:Reads some fun C G as x u => VV C G as x u:=fun e h => Option.some.inj e ▸ h
theorem Fn.p1 {α:Type} {g:AV → Option α} {V:CP → GP → AS → α → Value → Prop} {f:α → Option AV} {fv:Value} {d:Nat} (hV:Reads g V) (h:∀ (A:Around) (c:Cx) (hid:List Addr) (vs:VS) (ob:OB) (s:Shared) (as:AS) (Q:Value → Shared → Prop) (x:α) (u:Value) (z:AV),
  OkA d A → f x = some z → Rel W c hid vs ob as s.heap → V c.isclo (Gh W s.heap (c.av hid as)) as x u →
  (∀ (v:Value) (h':Heap) (tk:Nat),(∀ b o,s.heap.get? b = some o → h'.get? b = some o) → TV (Gh W h' (c.av hid as)) z v → Q v { s with heap:=h',toks:=tk }) → wpAny (model W.prog W.w) A (call fv [u]) Q (fun _ _ => False) s) :
  Fn W d fv (runF (p1 g f)):=by
 refine Fn.tree fun A c hid vs ob s as Q avs us a ob' hA e R hv => ?_
 obtain ⟨x,rfl,e⟩:=m1E e
 obtain ⟨u,rfl,t⟩:=hv.one
 exact bindE e fun x ex e => mapE e fun z ez e => by cases e; exact ⟨rfl,h A c hid vs ob s as Q x u _ hA ez R (hV ex t)⟩
theorem Fn.p2 {α β:Type} {g:AV → Option α} {g':AV → Option β} {V:CP → GP → AS → α → Value → Prop} {V':CP → GP → AS → β → Value → Prop} {f:α → β → Option AV} {fv:Value} {d:Nat} (hV:Reads g V) (hV':Reads g' V') (h:∀ (A:Around) (c:Cx) (hid:List Addr) (vs:VS) (ob:OB) (s:Shared) (as:AS) (Q:Value → Shared → Prop) (x:α) (y:β) (u v:Value) (z:AV),
  OkA d A → f x y = some z → Rel W c hid vs ob as s.heap → V c.isclo (Gh W s.heap (c.av hid as)) as x u → V' c.isclo (Gh W s.heap (c.av hid as)) as y v →
  (∀ (v:Value) (h':Heap) (tk:Nat),(∀ b o,s.heap.get? b = some o → h'.get? b = some o) → TV (Gh W h' (c.av hid as)) z v → Q v { s with heap:=h',toks:=tk }) → wpAny (model W.prog W.w) A (call fv [u,v]) Q (fun _ _ => False) s) :
  Fn W d fv (runF (p2 g g' f)):=by
 refine Fn.tree fun A c hid vs ob s as Q avs us a ob' hA e R hv => ?_
 obtain ⟨x,y,rfl,e⟩:=m2E e
 obtain ⟨u,v,rfl,t,t'⟩:=hv.two
 exact bindE e fun x ex e => bindE e fun y ey e => mapE e fun z ez e => by cases e; exact ⟨rfl,h A c hid vs ob s as Q x y u v _ hA ez R (hV ex t) (hV' ey t')⟩
noncomputable def lenF (a:AV) (ob:OB):Option Nat:=match a.s? with
 | some x => some x.length
 | Option.none => match a.t? with
  | some xs => some xs.length
  | Option.none => (rdL ob a).map List.length
noncomputable def bLen:BF:=m1 fun a ob => (lenF a ob).bind fun n => if n ≤ sizeLine then some (.int n,ob) else Option.none
theorem len_ok {d:Nat}:Fn W d (.builtin "len") (runF bLen):=by
 refine Fn.tree fun A c hid vs ob s as Q avs us a ob' hA e R hv => ?_
 obtain ⟨x,rfl,e⟩:=m1E e
 obtain ⟨u,rfl,t⟩:=hv.one
 refine bindE e fun n en e => ?_
 obtain ⟨hn,e⟩:=ifS e
 obtain ⟨rfl,rfl⟩:=Prod.mk.inj e
 have big:(n:Int) < 2 ^ 63:=Int.ofNat_lt.mpr (Nat.lt_of_le_of_lt hn (by decide:sizeLine < 2 ^ 63))
 refine ⟨rfl,fun hQ => ?_⟩
 have fin:∀ tk tk',Q (.int n tk) { s with heap:=s.heap,toks:=tk' }:=fun tk tk' => hQ _ s.heap tk' (fun _ _ e => e) (.int ..)
 unfold lenF at en
 cases q:x.s? with
 | some y =>
  rw [q] at en
  cases en
  obtain ⟨t,rfl⟩:=rStr q t
  exact PyProof.Rows.len_str (Int.not_le.mpr big) (fin _ _)
 | none =>
  rw [q] at en
  dsimp only at en
  cases q':x.t? with
  | some xs =>
   rw [q'] at en
   cases en
   obtain ⟨us,l,n,rfl,g,t⟩:=VV.tup (AV.tI q' ▸ t)
   have e:us.toArray.size = xs.length:=t.length.symm
   refine PyProof.Rows.len_tuple (items:=us.toArray) ⟨_,g.1,rfl,n,rfl⟩ (by rw [e]; exact big) ?_
   rw [e]
   exact fin _ _
  | none =>
   rw [q'] at en
   refine mapE en fun xs ex en => ?_
   subst en
   obtain ⟨l,us,n,rfl,g,t⟩:=rd_ok R.objs t ex
   have e:us.toArray.size = xs.length:=t.length.symm
   refine call_len_list (items:=us.toArray) ⟨_,g,rfl,n,rfl⟩ (by rw [e]; exact big) ?_
   rw [e]
   exact fin _ _
noncomputable def bAbs:BF:=p1 AV.i? fun i => some (.int (if i < 0 then -i else i))
theorem abs_ok {d:Nat}:Fn W d (.builtin "abs") (runF bAbs):=by
 refine Fn.p1 rInt fun A c hid vs ob s as Q x u z hA e R hv hQ => ?_
 obtain ⟨t,rfl⟩:=hv
 cases e
 exact call_abs_int fun u tk => hQ _ s.heap _ (fun _ _ e => e) (.int ..)
noncomputable def bHex:BF:=p1 AV.i? fun i => if (baseText "0x" 16 i).length ≤ sizeLine then some (.str (baseText "0x" 16 i)) else Option.none
theorem hex_ok {d:Nat}:Fn W d (.builtin "hex") (runF bHex):=by
 refine Fn.p1 rInt fun A c hid vs ob s as Q x u z hA e R hv hQ => ?_
 obtain ⟨t,rfl⟩:=hv
 obtain ⟨hx,rfl⟩:=ifS e
 exact P.hex_of_int (hQ _ s.heap _ (fun _ _ e => e) (.str ..)) hx
noncomputable def bDivmod:BF:=p2 AV.i? AV.i? fun a b => if b = 0 ∨ Builtin.divisionGoesByPylong a b = true then Option.none else some (.tup [.int (a.fdiv b),.int (a.fmod b)])
theorem divmod_ok {d:Nat}:Fn W d (.builtin "divmod") (runF bDivmod):=by
 refine Fn.p2 rInt rInt fun A c hid vs ob s as Q x y u v z hA e R hv hv' hQ => ?_
 obtain ⟨t,rfl⟩:=hv
 obtain ⟨t',rfl⟩:=hv'
 obtain ⟨hx,rfl⟩:=ifN e
 exact divmod_int (fun z => hx (.inl z)) (hQ _ _ _ (push_grow _ _) (TV.newTup (n:=0) R.base (.cons (.int ..) (.cons (.int ..) .nil)))) (.inl (Bool.eq_false_iff.mpr fun q => hx (.inr q)))
noncomputable def bBits:BF:=p1 AV.i? fun i => some (.int (Builtin.Int.intBits i))
theorem bits_ok {d:Nat}:Fn W d (.builtin "int.bit_length") (runF bBits):=by
 refine Fn.p1 rInt fun A c hid vs ob s as Q x u z hA e R hv hQ => ?_
 obtain ⟨t,rfl⟩:=hv
 cases e
 exact call_int_bit_length (hQ _ s.heap _ (fun _ _ e => e) (.int ..))
noncomputable def bTuple:BF:=p1 AV.l? fun xs => if xs.length ≤ sizeLine then some (.tup xs) else Option.none
theorem tuple_ok {d:Nat}:Fn W d (.type "tuple") (runF bTuple):=by
 refine Fn.p1 rLst fun A c hid vs ob s as Q x u z hA e R hv hQ => ?_
 obtain ⟨us,l,n,rfl,g,t⟩:=hv
 obtain ⟨hx,rfl⟩:=ifS e
 exact call_tuple_list (items:=us.toArray) ⟨_,g.1,rfl,n,rfl⟩ (fun h' k => hQ _ _ s.toks (fun b o e => push_grow _ _ b o (k b o e)) (TV.newTup (n:=0) (R.grow k).base (t.grow k))) (by rw [List.size_toArray,← t.length]; exact hx)
theorem liveSome {vs:VS} {ob:OB} {as:AS} {h h':Heap} {j:Nat} {l:Addr} {L:List Addr} {b:Bool} (R:Rel W c hid vs ob as h) (el:as[j]? = some (l,L,b)) (hb:b = true) (hsb:Heap.SameBut l h h') (hl:(h'.get? l).isSome = true):∀ a,a = l ∨ a ∈ L → (h'.get? a).isSome = true:=fun a ha => by
 by_cases z:a = l
 ·rw [z]; exact hl
 ·rw [hsb.2 a z]; exact (R.base.dis a (mem_av_live (mem_live_of el hb ha))).2.1
noncomputable def bAppend:BF:=m2 fun a y ob => a.k?.bind fun j => (ob[j]?.bind AO.l?).bind fun xs => if y.tree = true ∧ xs.length ≤ sizeLine then some (.none,ob.set j (.list (xs ++ [y]))) else Option.none
theorem append_ok {d:Nat}:Fn W d (.builtin "list.append") (runF bAppend):=by
 intro A c hid vs ob k s as Q avs us hA ht R hv hQ
 obtain ⟨a,ob',e,hk⟩:=runF_of ht
 obtain ⟨x,y,rfl,e⟩:=m2E e
 obtain ⟨u,v,rfl,t,t'⟩:=hv.two
 refine bindE e fun j ej e => bindE e fun xs eo e => bindE eo fun o q eo => ?_
 obtain ⟨hx,e⟩:=ifS e
 obtain ⟨rfl,rfl⟩:=Prod.mk.inj e
 rw [AV.kI ej] at t
 rw [AO.lI eo] at q
 obtain ⟨l,⟨L,b⟩,rfl,el⟩:=t
 obtain ⟨p,ep,us,n,hb,g,tv⟩:=R.objs.2 j _ q
 rw [el] at ep
 cases ep
 refine wpAny_list_append_plain (items:=us.toArray) ⟨n,g⟩ (fun h' hp hsb => ?_) (by rw [List.size_toArray,← tv.length]; exact hx.2)
 obtain ⟨n',hp⟩:=hp
 have e:us.toArray.push v = (us ++ [v]).toArray:=by simp
 rw [e] at hp
 obtain ⟨R',kl⟩:=R.put (ao:=.list (xs ++ [y])) el hb (fun b o h1 _ e => (hsb.2 b h1).trans e) (liveSome R el hb hsb (by rw [hp]; rfl)) fun kl _ _ tt => ⟨us ++ [v],n',hb,hp,(tt _ _ tv).append (tt [y] [v] (.one (t'.tree hx.1)))⟩
 exact hQ .none h' s.toks _ _ as hk R' TV.none kl .refl
end
section
set_option backward.match.sparseCases false
variable {W:Wd} {c:Cx} {hid:List Addr}
noncomputable def intsOf:List AV → Option (List Int)
 | [] => some []
 | x :: xs => x.i?.bind fun i => (intsOf xs).map (i :: ·)
theorem intsOf_ok {G:GP} {xs us} (t:TVs G xs us):∀ ns,intsOf xs = some ns → ∃ ps:List (Int × Tok),us = ps.map (fun p => .int p.1 p.2) ∧ ps.map (·.1) = ns ∧ IntsAre us ns:=by
 refine t.ind (fun ns e => ?_) fun x u xs us t ts ih ns e => ?_
 ·cases e; exact ⟨[],rfl,rfl,.nil⟩
 ·refine bindE e fun i ei e => mapE e fun ms em e => ?_
  obtain ⟨ps,rfl,h2,h3⟩:=ih _ em
  subst e
  obtain ⟨tk,rfl⟩:=VV.int (C:=noC) (as:=[]) (AV.iI ei ▸ t)
  exact ⟨(i,tk) :: ps,rfl,congrArg _ h2,.cons i tk h3⟩
theorem intItems_of (ps:List (Int × Tok)):(ps.map (fun p => Value.int p.1 p.2)).toArray = intItems ps.toArray:=by
 unfold intItems; simp
theorem TVs.ints {G:GP} {us:List Value} {ns:List Int} (h:IntsAre us ns):TVs G (ns.map .int) us:=by
 induction h with
 | nil => exact .nil
 | cons n t h ih => exact .cons (.int n t) ih
noncomputable def bSum:BF:=p1 AV.l? fun xs => (intsOf xs).map fun ns => .int ns.sum
theorem sum_ok {d:Nat}:Fn W d (.builtin "sum") (runF bSum):=by
 refine Fn.p1 rLst fun A c hid vs ob s as Q x u z hA e R hv hQ => ?_
 obtain ⟨us,l,n,rfl,g,t⟩:=hv
 refine mapE e fun ns q e => ?_
 subst e
 obtain ⟨ps,h1,h2,_⟩:=intsOf_ok t _ q
 refine sum_intListG (xs:=ps.toArray) hA.1 ⟨_,g.1,rfl,n,by rw [← intItems_of,← h1]; rfl⟩ fun h' tk t' k => ?_
 rw [preSum_eq]
 have e:((ps.toArray.toList.map (·.1)).take ps.toArray.size).sum = ns.sum:=by
  rw [← h2,List.take_of_length_le (by simp)]
 rw [e]
 exact hQ _ h' tk k (.int ..)
noncomputable def maxI:Int → List Int → Int
 | m,[] => m
 | m,x :: xs => maxI (if m < x then x else m) xs
theorem maxI_ge (m:Int) (xs:List Int):m ≤ maxI m xs ∧ ∀ x ∈ xs,x ≤ maxI m xs:=by
 induction xs generalizing m with
 | nil => exact ⟨Int.le_refl _,fun _ h => nomatch h⟩
 | cons x xs ih =>
  have h:=ih (if m < x then x else m)
  have h3:m ≤ (if m < x then x else m) ∧ x ≤ (if m < x then x else m):=by split <;> omega
  exact ⟨Int.le_trans h3.1 h.1,List.forall_mem_cons.mpr ⟨Int.le_trans h3.2 h.1,h.2⟩⟩
theorem maxI_mem (m:Int) (xs:List Int):maxI m xs = m ∨ maxI m xs ∈ xs:=by
 induction xs generalizing m with
 | nil => exact .inl rfl
 | cons x xs ih =>
  rcases ih (if m < x then x else m) with q | q
  ·by_cases h:m < x
   ·exact .inr ((q.trans (if_pos h)).symm ▸ List.mem_cons_self:(maxI (if m < x then x else m) xs) ∈ x :: xs)
   ·exact .inl (q.trans (if_neg h))
  ·exact .inr (List.mem_cons_of_mem _ q)
noncomputable def maxL:List Int → Option AV
 | [] => Option.none
 | n :: ns => some (.int (maxI n ns))
noncomputable def bMax:BF:=p1 AV.l? fun xs => (intsOf xs).bind maxL
theorem max_ok {d:Nat}:Fn W d (.builtin "max") (runF bMax):=by
 refine Fn.p1 rLst fun A c hid vs ob s as Q x u z hA e R hv hQ => ?_
 obtain ⟨us,l,n,rfl,g,t⟩:=hv
 refine bindE e fun ns q e => ?_
 cases ns with
 | nil => exact noS e
 | cons m ns =>
 cases e
 obtain ⟨ps,h1,h2,_⟩:=intsOf_ok t _ q
 have hne:0 < ps.toArray.size:=by
  have:=congrArg List.length h2
  simp at this ⊢; lia
 refine max_intList (xs:=ps.toArray) hA.1 ⟨_,g.1,rfl,n,by rw [← intItems_of,← h1]; rfl⟩ hne fun v h' tk hv k => ?_
 obtain ⟨t',rfl⟩:=intItems_at hv
 obtain ⟨b1,b2⟩:=argBest_gt (numAt ps.toArray) (ps.toArray.size - 1)
 have num:∀ j,numAt ps.toArray j = (m :: ns).getD j 0:=fun j => by rw [numAt_eq,← h2]
 have hl:(m :: ns).length = ps.toArray.size:=by rw [← h2]; simp
 generalize argBest (fun i j => decide (numAt ps.toArray i > numAt ps.toArray j)) (ps.toArray.size - 1) = j at *
 have hj:j < (m :: ns).length:=by lia
 have e:numAt ps.toArray j = maxI m ns:=by
  have h3:∀ x ∈ m :: ns,x ≤ numAt ps.toArray j:=fun x hx => by
   obtain ⟨i,hi⟩:=List.getElem?_of_mem hx
   obtain ⟨hil,_⟩:=List.getElem?_eq_some_iff.mp hi
   have:=b2 i (by lia)
   rw [num i] at this
   simpa [List.getD,hi] using this
  have h4:numAt ps.toArray j ∈ m :: ns:=by
   rw [num j]
   simp only [List.getD,List.getElem?_eq_getElem hj,Option.getD_some]
   exact List.getElem_mem hj
  have g:=maxI_ge m ns
  have up:numAt ps.toArray j ≤ maxI m ns:=by
   rcases List.mem_cons.mp h4 with q | q
   ·rw [q]; exact g.1
   ·exact g.2 _ q
  have dn:maxI m ns ≤ numAt ps.toArray j:=by
   rcases maxI_mem m ns with q | q
   ·rw [q]; exact h3 m (List.mem_cons_self ..)
   ·exact h3 _ (List.mem_cons_of_mem _ q)
  lia
 rw [e]
 exact hQ _ h' tk k (.int ..)
noncomputable def insI (x:Int):List Int → List Int
 | [] => [x]
 | y :: ys => if x ≤ y then x :: y :: ys else y :: insI x ys
noncomputable def sortI:List Int → List Int
 | [] => []
 | x :: xs => insI x (sortI xs)
theorem insI_perm (x:Int) (ys:List Int):(insI x ys).Perm (x :: ys):=by
 induction ys with
 | nil => exact .refl _
 | cons y ys ih =>
  by_cases h:x ≤ y
  ·rw [show insI x (y :: ys) = x :: y :: ys from if_pos h]
  ·rw [show insI x (y :: ys) = y :: insI x ys from if_neg h]; exact (ih.cons y).trans (.swap x y ys)
theorem insI_sorted (x:Int) {ys:List Int}:ys.Pairwise (· ≤ ·) → (insI x ys).Pairwise (· ≤ ·):=by
 induction ys with
 | nil => exact fun _ => List.pairwise_singleton ..
 | cons y ys ih =>
  intro h
  have h':=List.pairwise_cons.mp h
  by_cases q:x ≤ y
  ·rw [show insI x (y :: ys) = x :: y :: ys from if_pos q]; exact List.pairwise_cons.mpr ⟨List.forall_mem_cons.mpr ⟨q,fun a ha => Int.le_trans q (h'.1 a ha)⟩,h⟩
  ·rw [show insI x (y :: ys) = y :: insI x ys from if_neg q]; exact List.pairwise_cons.mpr ⟨fun a ha => List.forall_mem_cons.mpr ⟨Int.le_of_lt (Int.not_le.mp q),h'.1⟩ a ((insI_perm x ys).mem_iff.mp ha),ih h'.2⟩
theorem sortI_perm (xs:List Int):(sortI xs).Perm xs:=by
 induction xs with
 | nil => exact .refl _
 | cons x xs ih => exact (insI_perm x _).trans (ih.cons x)
theorem sortI_sorted (xs:List Int):(sortI xs).Pairwise (· ≤ ·):=by
 induction xs with
 | nil => exact .nil
 | cons x xs ih => exact insI_sorted x ih
theorem sorted_unique {xs ys:List Int} (h:xs.Perm ys) (hx:xs.Pairwise (· ≤ ·)) (hy:ys.Pairwise (· ≤ ·)):xs = ys :=
 h.eq_of_pairwise (fun a b _ _ h1 h2 => Int.le_antisymm h1 h2) hx hy
theorem gh_new {h h':Heap} {av:List Addr} {a:Addr} {o:Obj} (B:Base W av h) (hn:h.get? a = none) (e:h'.get? a = some o):Gh W h' av a o:=by
 refine ⟨e,fun hm => ?_,fun hm => ?_⟩
 ·have:=(B.dis _ hm).2.1
  (first | exact noO hn this | exact noI hn this | (rw [hn] at this; cases this))
 ·obtain ⟨pr,_,_,q⟩:=B.inv
  obtain ⟨t,ht,et⟩:=List.mem_map.mp hm
  have:(h.get? t.P).isSome = true:=by
   rcases (q t ht).2 with x | ⟨c',_,_,x,_⟩
   ·rw [x.2.2]; rfl
   ·rw [x.2]; rfl
  rw [et,hn] at this; cases this
theorem succ_none (h:Heap):h.get? (h.objs.size + 1) = Option.none:=by
 cases e:h.get? (h.objs.size + 1) with
 | none => rfl
 | some o => exact absurd (Heap.lt_size e) (Nat.not_lt.mpr (Nat.le_succ _))
noncomputable def bSorted:BF:=p1 AV.l? fun xs => (intsOf xs).bind fun ns => if ns.length < 64 then some (.lst ((sortI ns).map .int)) else Option.none
theorem sorted_ok {d:Nat}:Fn W d (.builtin "sorted") (runF bSorted):=by
 refine Fn.p1 rLst fun A c hid vs ob s as Q x u z hA e R hv hQ => ?_
 obtain ⟨us,l,n,rfl,g,t⟩:=hv
 refine bindE e fun ns q e => ?_
 obtain ⟨hlen,rfl⟩:=ifS e
 obtain ⟨ps,h1,h2,h3⟩:=intsOf_ok t _ q
 have hl:us.length < 64:=by rw [h1,List.length_map]; rw [← h2,List.length_map] at hlen; exact hlen
 refine sorted_ints (vs:=us) (ns:=ns) ⟨_,g.1,rfl,n,rfl⟩ h3 hl fun out ns' a1 a2 a3 => ?_
 have e:ns' = sortI ns:=sorted_unique (a2.trans (sortI_perm ns).symm) a3 (sortI_sorted ns)
 subst e
 obtain ⟨e,he⟩:=sortedAll_at s.heap us out
 refine hQ _ _ s.toks (fun _ _ => sortedAll_old) ?_
 exact .lst (vs:=out.toList) (n:=e) (gh_new R.base (succ_none _) he) (TVs.ints a1)
end
section
open Builtin Builtin.Str
variable {W:Wd} {c:Cx} {hid:List Addr}
noncomputable def bUpper:BF:=p1 AV.s? fun x => if tooLong (Txt.upper x).length = false then some (.str (Txt.upper x)) else Option.none
theorem upper_ok {d:Nat}:Fn W d (.builtin "str.upper") (runF bUpper):=by
 refine Fn.p1 rStr fun A c hid vs ob s as Q x u z hA e R hv hQ => ?_
 obtain ⟨tk,rfl⟩:=hv
 obtain ⟨hx,rfl⟩:=ifS e
 exact call_gives F.slot_str_upper (typeIs_str _ _ _) F.entry_str_upper (F.args_str_upper_1 _) (gives_str_upper _ tk hx) ⟨fit_le hx,hQ _ s.heap _ (fun _ _ e => e) (.str ..)⟩
noncomputable def bLower:BF:=p1 AV.s? fun x => if tooLong (Txt.lower x).length = false then some (.str (Txt.lower x)) else Option.none
theorem lower_ok {d:Nat}:Fn W d (.builtin "str.lower") (runF bLower):=by
 refine Fn.p1 rStr fun A c hid vs ob s as Q x u z hA e R hv hQ => ?_
 obtain ⟨tk,rfl⟩:=hv
 obtain ⟨hx,rfl⟩:=ifS e
 exact call_gives F.slot_str_lower (typeIs_str _ _ _) F.entry_str_lower (F.args_str_lower_1 _) (gives_str_lower _ tk hx) ⟨fit_le hx,hQ _ s.heap _ (fun _ _ e => e) (.str ..)⟩
theorem TVs.strs {G:GP}:∀ (l:List (Str × Tok)),TVs G ((l.map (·.1)).map .str) (strValues l)
 | [] => .nil
 | p :: l => .cons (.str p.1 p.2) (TVs.strs l)
noncomputable def bSplit:BF:=p2 AV.s? AV.s? fun x y => if (y.length == 0) = true ∨ sizeLine < x.length ∨ sizeLine < (partsBetween x (occurrences x y 0 x.length (x.length + 1)) y.length).length then Option.none else some (.lst ((Txt.split x y).map .str))
theorem split_ok {d:Nat}:Fn W d (.builtin "str.split") (runF bSplit):=by
 refine Fn.p2 rStr rStr fun A c hid vs ob s as Q x y u v z hA e R hv hv' hQ => ?_
 obtain ⟨tk,rfl⟩:=hv
 obtain ⟨tk',rfl⟩:=hv'
 obtain ⟨hx,rfl⟩:=ifN e
 have hy:(y.length == 0) = false:=Bool.eq_false_iff.mpr fun q => hx (.inl q)
 have hsz:x.length ≤ sizeLine:=Nat.le_of_not_lt fun z => hx (.inr (.inl z))
 have hsz2:(partsBetween x (occurrences x y 0 x.length (x.length + 1)) y.length).length ≤ sizeLine:=Nat.le_of_not_lt fun z => hx (.inr (.inr z))
 have fin:∀ (l:List (Str × Tok)) (tk:Nat),l.map (·.1) = Txt.split x y → Q (.ref s.heap.objs.size) { s with heap:=s.heap.push (lstO (strValues l) 0),toks:=tk }:=fun l tk e => by
  refine hQ _ _ tk (push_grow _ _) ?_
  rw [← e]
  exact TV.newLst R.base (TVs.strs l)
 cases h1:(decide (x.length < y.length) || decide (strKind x < strKind y)) with
 | true =>
  refine call_meets F.slot_str_split (typeIs_str _ _ _) F.entry_str_split (F.args_str_split_2 _ _) (meets_str_split_cannot_occur x y tk tk' h1) (fin [(x,tk)] s.toks ?_)
  unfold Txt.split; rw [if_pos h1]; rfl
 | false =>
  cases hf:(occurrences x y 0 x.length (x.length + 1)).isEmpty with
  | true =>
   refine call_meets F.slot_str_split (typeIs_str _ _ _) F.entry_str_split (F.args_str_split_2 _ _) (meets_str_split_not_found x y tk tk' h1 hy hf) (fin [(x,tk)] s.toks ?_)
   unfold Txt.split; rw [if_neg (by rw [h1]; simp),if_pos hf]; rfl
  | false =>
   refine call_meets F.slot_str_split (typeIs_str _ _ _) F.entry_str_split (F.args_str_split_2 _ _) (meets_str_split_sep x y tk tk' h1 hy hf hsz hsz2) ?_
   have z:=fin (numbered s.toks (partsBetween x (occurrences x y 0 x.length (x.length + 1)) y.length)) (s.toks + (partsBetween x (occurrences x y 0 x.length (x.length + 1)) y.length).length) (by
    rw [numbered_texts]; unfold Txt.split; rw [if_neg (by rw [h1]; simp),if_neg (by rw [hf]; simp)])
   rw [← strsFrom_eq] at z
   exact z
noncomputable def strsOf:List AV → Option (List Str)
 | [] => some []
 | x :: xs => x.s?.bind fun i => (strsOf xs).map (i :: ·)
theorem strsOf_ok {G:GP} {xs us} (t:TVs G xs us):∀ ns,strsOf xs = some ns → ∃ l:List (Str × Tok),us = strValues l ∧ l.map (·.1) = ns:=by
 refine t.ind (fun ns e => ?_) fun x u xs us t ts ih ns e => ?_
 ·cases e; exact ⟨[],rfl,rfl⟩
 ·refine bindE e fun i ei e => mapE e fun ms em e => ?_
  obtain ⟨ps,rfl,h2⟩:=ih _ em
  subst e
  obtain ⟨tk,rfl⟩:=VV.str (C:=noC) (as:=[]) (AV.sI ei ▸ t)
  exact ⟨(i,tk) :: ps,rfl,congrArg _ h2⟩
noncomputable def bJoin:BF:=p2 AV.s? AV.l? fun x ys => (strsOf ys).bind fun l => if JoinOk x l = true then some (.str (Txt.join x l)) else Option.none
theorem join_ok {d:Nat}:Fn W d (.builtin "str.join") (runF bJoin):=by
 refine Fn.p2 rStr rLst fun A c hid vs ob s as Q x y u v z hA e R hv hv' hQ => ?_
 obtain ⟨tk,rfl⟩:=hv
 obtain ⟨us,a,n,rfl,g,t'⟩:=hv'
 refine bindE e fun l q e => ?_
 obtain ⟨hx,rfl⟩:=ifS e
 obtain ⟨ps,h1,h2⟩:=strsOf_ok t' _ q
 exact SC.join (l:=ps) (texts:=l) ⟨_,g.1,rfl,n,by rw [h1]; rfl⟩ h2 hx fun t' k => hQ _ s.heap _ (fun _ _ e => e) (.str ..)
noncomputable def okIn (x:AV) (ys:List AV):Bool:=x.isP && isPs ys && PyData.canLayAll0 (toPs ys) && x.toP.canLay0 && decide (x.toP.depth ≤ 8) && decide (ys.length ≤ sizeLine)
theorem toPs_len:∀ ys:List AV,(toPs ys).length = ys.length
 | [] => rfl
 | _ :: ys => by unfold toPs; simp [toPs_len ys]
noncomputable def bCount:BF:=p2 AV.l? some fun ys x => if okIn x ys = true then some (.int ((toPs ys).countP fun y => PyData.eqv y x.toP)) else Option.none
noncomputable def idx (p:PyData → Bool):Nat → List PyData → Option Nat
 | _,[] => Option.none
 | i,y :: ys => if p y then some i else idx p (i + 1) ys
noncomputable def bIndex:BF:=p2 AV.l? some fun ys x => if okIn x ys = true then (idx (fun y => PyData.eqv y x.toP) 0 (toPs ys)).map fun (j:Nat) => .int (j:Int) else Option.none
theorem idx_ok {p:PyData → Bool} {ds:List PyData}:∀ {i j:Nat},idx p i ds = some j → ∃ m,j = i + m ∧ (∃ x,ds[m]? = some x ∧ p x = true) ∧ ∀ k x,k < m → ds[k]? = some x → p x = false:=by
 induction ds with
 | nil => exact noS
 | cons y ys ih =>
  intro i j e
  by_cases h:p y = true
  ·exact ⟨0,(Option.some.inj (ifP h e)).symm,⟨y,rfl,h⟩,fun k _ hk _ => absurd hk (Nat.not_lt_zero k)⟩
  ·obtain ⟨m,e1,⟨x,e2,e3⟩,e4⟩:=ih (ifQ h e)
   refine ⟨m + 1,e1.trans (Nat.add_right_comm ..),⟨x,e2,e3⟩,fun k z hk ez => ?_⟩
   cases k with
   | zero => exact eq_false_of_ne_true (Option.some.inj ez ▸ h)
   | succ k => exact e4 k z (Nat.lt_of_succ_lt_succ hk) ez
theorem okInE {x:AV} {ys:List AV} (h:okIn x ys = true):x.isP = true ∧ isPs ys = true ∧ PyData.canLayAll0 (toPs ys) = true ∧ x.toP.canLay0 = true ∧ x.toP.depth ≤ 8 ∧ ys.length ≤ sizeLine:=by
 unfold okIn at h
 simp only [Bool.and_eq_true,decide_eq_true_eq] at h
 obtain ⟨⟨⟨⟨⟨h1,h2⟩,h3⟩,h4⟩,h5⟩,h6⟩:=h
 exact ⟨h1,h2,h3,h4,h5,h6⟩
theorem isP_tree {x:AV} (h:x.isP = true):x.tree = true:=by cases x <;> first | rfl | exact absurd h.symm Bool.false_ne_true | cases h
theorem depOk {A:Around} {d m n:Nat} (hA:OkA d A) (h:m ≤ 8):A.units + 1 + min n m < cLine:=Nat.lt_of_le_of_lt (Nat.add_le_add_left (Nat.le_trans (Nat.min_le_right n m) h) _) (by have:=hA.2.2; lia)
theorem count_ok {d:Nat}:Fn W d (.builtin "list.count") (runF bCount):=by
 refine Fn.p2 rLst rAny fun A c hid vs ob s as Q ys x u v z hA e R hv hv' hQ => ?_
 obtain ⟨us,a,n,rfl,g,t⟩:=hv
 obtain ⟨hx,rfl⟩:=ifS e
 obtain ⟨h1,h2,h3,h4,h5,h6⟩:=okInE hx
 have t':TV _ x v:=VV.tree hv' (isP_tree h1)
 obtain ⟨as',rx⟩:=t'.reads h1
 obtain ⟨bs,rs⟩:=t.reads h2
 refine call_meets F.slot_list_count ⟨_,g.1,rfl⟩ F.entry_list_count (F.args_list_count_2 _ _) (list_countAt a us.toArray n none #[] v (fun y => PyData.eqv (readOf s.heap y) x.toP)) ⟨g.1,?_,?_⟩
 ·exact items_eqAt (A:=A) (vs:=us.toArray) rs rx h3 h4 (depOk hA h5)
 ·have e:us.countP (fun y => PyData.eqv (readOf s.heap y) x.toP) = (toPs ys).countP fun y => PyData.eqv y x.toP:=by
   rw [← readsAll_map _ _ _ h3 rs,List.countP_map]; rfl
  show Q (.int (us.countP _:Nat) _) _
  rw [e]
  exact hQ _ s.heap _ (fun _ _ e => e) (.int ..)
theorem index_ok {d:Nat}:Fn W d (.builtin "list.index") (runF bIndex):=by
 refine Fn.p2 rLst rAny fun A c hid vs ob s as Q ys x u v zz hA e R hv hv' hQ => ?_
 obtain ⟨us,a,n,rfl,g,t⟩:=hv
 obtain ⟨hx,e⟩:=ifT e
 refine mapE e fun j hj e => ?_
 subst e
 obtain ⟨h1,h2,h3,h4,h5,h6⟩:=okInE hx
 have t':TV _ x v:=VV.tree hv' (isP_tree h1)
 obtain ⟨as',rx⟩:=t'.reads h1
 obtain ⟨bs,rs⟩:=t.reads h2
 obtain ⟨m,e1,⟨z,e2,e3⟩,e4⟩:=idx_ok hj
 have hjm:j = m:=e1.trans (Nat.zero_add m)
 subst hjm
 have hm:us.map (fun y => readOf s.heap y) = toPs ys:=readsAll_map _ _ _ h3 rs
 have hl:j < us.length:=by
  rw [← hm,List.getElem?_map] at e2
  cases q:us[j]? with
  | none => (first | exact noO q e2 | exact noI q e2 | (rw [q] at e2; cases e2))
  | some w => exact (List.getElem?_eq_some_iff.mp q).1
 have hyl:us.length = ys.length:=t.length.symm
 refine call_meets F.slot_list_index ⟨_,g.1,rfl⟩ F.entry_list_index (F.args_list_index_2 _ _) (list_indexAt a us.toArray n none #[] v (fun y => PyData.eqv (readOf s.heap y) x.toP) j (by simpa using hl) (by unfold sizeLine at h6; lia) ?_ ?_) ⟨g.1,?_,?_⟩
 ·rw [← hm,List.getElem?_map,List.getElem?_eq_getElem hl] at e2
  cases e2
  simpa using e3
 ·intro k hk hkj
  have hk':k < us.length:=by simpa using hk
  have:=e4 k (readOf s.heap us[k]) hkj (by rw [← hm,List.getElem?_map,List.getElem?_eq_getElem hk']; rfl)
  simpa using this
 ·exact items_eqAt (A:=A) (vs:=us.toArray) rs rx h3 h4 (depOk hA h5)
 ·have e0:(0 + j:Nat) = j:=Nat.zero_add j
  have z:=hQ (.int j s.toks) s.heap (s.toks + 1) (fun _ _ e => e) (.int ..)
  exact z
noncomputable def bReverse:BF:=m1 fun a ob => a.k?.bind fun j => (ob[j]?.bind AO.l?).bind fun xs => if xs.length ≤ sizeLine then some (.none,ob.set j (.list xs.reverse)) else Option.none
theorem reverse_ok {d:Nat}:Fn W d (.builtin "list.reverse") (runF bReverse):=by
 intro A c hid vs ob k s as Q avs us hA ht R hv hQ
 obtain ⟨a,ob',e,hk⟩:=runF_of ht
 obtain ⟨x,rfl,e⟩:=m1E e
 obtain ⟨u,rfl,t⟩:=hv.one
 refine bindE e fun j ej e => bindE e fun xs eo e => bindE eo fun o q eo => ?_
 obtain ⟨hx,e⟩:=ifS e
 obtain ⟨rfl,rfl⟩:=Prod.mk.inj e
 rw [AV.kI ej] at t
 rw [AO.lI eo] at q
 obtain ⟨l,⟨L,b⟩,rfl,el⟩:=t
 obtain ⟨p,ep,us,n,hb,g,tv⟩:=R.objs.2 j _ q
 rw [el] at ep
 cases ep
 have hsz:us.toArray.size ≤ sizeLine:=by rw [List.size_toArray,← tv.length]; exact hx
 refine call_meets F.slot_list_reverse ⟨_,g,rfl⟩ F.entry_list_reverse (F.args_list_reverse_1 _) (AutoListH.list_reverse_list_0 l us.toArray n hsz) ⟨g,?_⟩
 have up:=IsL.update (n:=n) g (fun x => x.reverse)
 have hsb:Heap.SameBut l s.heap (s.heap.update l (Obj.mapSeq fun x => x.reverse)):=Heap.SameBut.update ..
 have e:us.toArray.reverse = us.reverse.toArray:=by simp
 rw [e] at up
 obtain ⟨R',kl⟩:=R.put (ao:=.list xs.reverse) el hb (fun b o h1 _ e => (hsb.2 b h1).trans e) (liveSome R el hb hsb (by rw [up]; rfl)) fun kl _ _ tt => ⟨us.reverse,_,hb,up,(tt _ _ tv).reverse⟩
 exact hQ .none _ _ _ _ as hk R' TV.none kl .refl
end
section
set_option backward.match.sparseCases false
variable {W:Wd} {c:Cx} {hid:List Addr}
noncomputable def isStar:Expr → Bool
 | .Starred .. => true
 | _ => false
noncomputable def noStar (es:List Expr):Bool:=es.all fun e => !isStar e
theorem starEach_cons {e:Expr} {es:List Expr} {env:Env} (h:isStar e = false):starEach (e :: es) env = (false,eval e env) :: starEach es env:=by
 cases e <;> first | rfl | cases h
theorem starEach_any {env:Env}:∀ {es:List Expr},noStar es = true → (starEach es env).any (·.1) = false
 | [],_ => rfl
 | e :: es,h => by
  unfold noStar at h
  rw [List.all_cons,Bool.and_eq_true] at h
  rw [starEach_cons (by simpa using h.1),List.any_cons,starEach_any h.2]; rfl
theorem backTo_any {pos:Pos} {l:List (Bool × Sem Value)}:(backTo pos l).any (·.1) = l.any (·.1):=by
 unfold backTo
 rw [List.any_map]
 rfl
theorem backTo_all {pos:Pos} {l:List (Bool × Sem Value)}:(backTo pos l).all (fun x => !x.1) = !(l.any (·.1)):=by
 unfold backTo
 rw [List.all_map,List.not_any_eq_all_not]
 rfl
noncomputable def isBareCall:Expr → Bool
 | .Call (.Name _ _) [] [] _ => true
 | _ => false
theorem base_ok {o:Expr} {name:Str} {env:Env} {m:Sem Value} (h:isBareCall o = false):attributeBase o name env m = m:=by
 cases o with
 | Call f l k p => cases f with
  | Name x q => cases l with
   | nil => cases k with
    | nil => cases h
    | cons => rfl
   | cons => rfl
  | _ => rfl
 | _ => rfl
theorem args0 {f:Value} {pos:Pos} {es:List Expr} {A:Around} {Q:List Value → Shared → Prop} {s:Shared} (hn:noStar es = true) (h:wpAny (model W.prog W.w) A (spliced (backTo pos (starEach es c.env))) Q (fun _ _ => False) s) :
  wpAny (model W.prog W.w) A (evalArgs f true (backTo pos (starEach es c.env)) []) (fun a s₁ => a.kw = [] ∧ Q a.pos s₁) (fun _ _ => False) s:=by
 cases es with
 | nil =>
  unfold evalArgs
  show wpAny (model W.prog W.w) A (spliced (backTo pos (starEach [] c.env)) >>= _) _ _ s
  refine wpAny_bind (wpF h fun vs s' h' => ?_)
  refine wpAny_bind (wpAny_pure ?_)
  refine wpAny_holding ?_
  exact wpAny_bind (wpAny_pure (wpAny_bind (wpAny_pure (wpAny_pure ⟨rfl,h'⟩))))
 | cons e es =>
  have hs:isStar e = false:=by unfold noStar at hn; rw [List.all_cons,Bool.and_eq_true] at hn; simpa using hn.1
  rw [starEach_cons hs] at h ⊢
  exact evalArgs_plain (wpF h fun vs s' h' => ⟨rfl,h'⟩)
noncomputable def HasTy (W:Wd) (ob:OB) (a:AV) (T:String):Prop :=
 match a with
 | .str _ => T = "str"
 | .int _ => T = "int"
 | .lst _ => T = "list"
 | .loc k => T = "list" ∧ ∃ xs,rdL ob (.loc k) = some xs
 | .cst v => ∃ r o,v = .ref r ∧ W.h₀.get? r = some o ∧ o.cls = .type T ∧ o.dict = Option.none
 | _ => False
theorem hasTy_ok {vs:VS} {ob:OB} {as:AS} {s:Shared} {a:AV} {v:Value} {T:String} (R:Rel W c hid vs ob as s.heap) (hv:VV c.isclo (Gh W s.heap (c.av hid as)) as a v) (h:HasTy W ob a T) :
  s.TypeIs v T ∧ ∀ r,v = .ref r → ∃ o,s.heap.get? r = some o ∧ o.dict = Option.none:=by
 cases a <;> try exact h.elim
 case str x =>
  obtain ⟨t,rfl⟩:=hv.str
  cases h
  exact ⟨typeIs_str _ _ _,fun _ e => nomatch e⟩
 case int x =>
  obtain ⟨t,rfl⟩:=hv.int
  cases h
  exact ⟨typeIs_int _ _ _,fun _ e => nomatch e⟩
 case lst xs =>
  obtain ⟨us,l,n,rfl,g,_⟩:=hv.lst
  cases h
  exact ⟨⟨_,g.1,rfl⟩,fun r e => by cases e; exact ⟨_,g.1,rfl⟩⟩
 case loc k =>
  obtain ⟨rfl,xs,e⟩:=h
  obtain ⟨l,us,n,rfl,g,_⟩:=rd_ok R.objs hv e
  exact ⟨⟨_,g,rfl⟩,fun r e => by cases e; exact ⟨_,g,rfl⟩⟩
 case cst x =>
  obtain ⟨r,o,rfl,e1,e2,e3⟩:=h
  have hv':TV _ (.cst (.ref r)) v:=hv
  cases hv'
  exact ⟨⟨_,R.base.sub _ _ e1,e2⟩,fun r e => by cases e; exact ⟨_,R.base.sub _ _ e1,e3⟩⟩
noncomputable def MF (T:String) (name:Str) (id:String):Prop:=PlainAttrs T ∧ Slot T name id ∧ typeOf (.builtin id) = pure (.type "method_descriptor")
theorem E.meth {o:Expr} {name:Str} {apos pos:Pos} {args:List Expr} {To:TE} {Ta:TEs} {Tf:String → TF} (ho:E W c o To) (ha:Es W c args Ta) (hf:∀ id,Fn W 0 (.builtin id) (Tf id)) (hb:isBareCall o = false) (hn:noStar args = true) (hl:args.length < 30)
  (hline:(apos.endLine == pos.line) = true) :
  E W c (.Call (.Attribute o name apos) args [] pos) (fun vs ob k => To vs ob fun a ob₁ => ∃ T id,HasTy W ob₁ a T ∧ MF T name id ∧ Ta vs ob₁ fun avs ob₂ => Tf id (a :: avs) ob₂ k):=by
 intro A hid vs ob k s as Q hA ht R hQ
 refine wpAny_Call_method_late (base_ok hb) (by
  rw [backTo_all,starEach_any hn]
  rw [show backToKw pos (keywordEach [] c.env) = [] from rfl]
  simp [hl]) hline rfl (ho A hid vs ob _ s as _ hA ht R fun v h₁ t₁ a ob₁ as₁ hk R₁ hv kp ex => ?_)
 obtain ⟨T,id,hty,⟨pa,sl,ty⟩,hk⟩:=hk
 obtain ⟨hT,hd⟩:=hasTy_ok (s:={ s with heap:=h₁,toks:=t₁ }) R₁ hv hty
 refine ⟨T,id,pa,sl,ty,hT,hd,?_⟩
 refine callWith_builtin (by rw [backTo_any,starEach_any hn]) ?_
 refine wpF (args0 (c:=c) hn (ha A hid vs ob₁ _ { s with heap:=h₁,toks:=t₁ } as₁ pos (fun us s₂ => wpAny (model W.prog W.w) A (PySem.call (.builtin id) (v :: us)) Q (fun _ _ => False) s₂) hA hk R₁ fun us h₂ t₂ avs ob₂ as₂ hk₂ R₂ hvs kp₂ ex₂ => ?_)) fun a s₁ ⟨e,h⟩ => by rw [e]; exact h
 refine (hf id).then (s:=s) hA (Nat.zero_le _) hk₂ R₂ (.cons (hv.step kp₂ (fun a ha => mem_av_live ha) ex₂) hvs) (kp.trans kp₂ ex.live) (ex.trans kp ex₂) hQ
end
section
variable {W:Wd} {c:Cx} {hid:List Addr}
noncomputable def signs (x:Str):List AV:=x.cps.toList.map fun ch => .str ⟨#[ch]⟩
theorem signs_len (x:Str):(signs x).length = x.cps.size:=by unfold signs; simp
theorem It.str {e:Expr} {T:TE} (h:E W c e T):It W c e (fun vs ob k => T vs ob fun a ob' => ∃ x,a = .str x ∧ x.cps.all (· < 128) = true ∧ x.cps.size ≤ sizeLine ∧ k (signs x) ob'):=by
 intro A hid vs ob k s as Q hA ht R hQ
 refine h A hid vs ob _ s as _ hA ht R fun v h₁ t₁ a ob₁ as₁ hk R₁ hv kp ex => ?_
 obtain ⟨x,ea,hasc,hsz,hk⟩:=hk
 subst ea
 obtain ⟨t,rfl⟩:=hv.str
 have hI:=size_none h₁
 have g:∀ o:Obj,∀ b o',h₁.get? b = some o' → (h₁.push o).get? b = some o':=fun o => push_grow _ _
 refine wpAny_pyIter_ascii hasc ?_
 have Wk:=Walks.strAscii (prog:=W.prog) (w:=W.w) (A:=A) hA.1 h₁.objs.size x t
 rw [← signs_len] at Wk
 refine hQ h₁.objs.size _ t₁ (signs x) ob₁ as₁ _ _ _ hk (R₁.hide (g _) hI (by rw [Heap.get?_push_size _ rfl]; rfl)) (new_none kp _ hI) Wk ⟨_,Heap.get?_push_size _ rfl,rfl,rfl⟩ (by rw [signs_len]; exact hsz) ?_ ?_ ?_ ?_ (kp.trans (Kp.grow (g _) []) fun _ ha => nomatch ha) ex
 ·intro b hb hne; exact absurd (List.mem_singleton.mp hb) hne
 ·rintro j y u hx ⟨ch,tk,e1,rfl⟩ h₂ as₂ _ _
  unfold signs at hx
  rw [List.getElem?_map,Array.getElem?_toList,e1] at hx
  cases hx
  exact .str ..
 ·intro i elts x1 pos u s₂ Q₂ st hq
  obtain ⟨o,e1,e2,e3⟩:=st
  exact letOwned_ok e1 e2 e3 (by decide) hq
 ·rintro i h ⟨o,e1,_⟩; rw [e1]; rfl
theorem It.rev {x:Str} {p pos:Pos} {e:Expr} {T:TE} (hf:E W c (.Name x p) (fun _ ob k => k (.cst (.type "reversed")) ob)) (h:E W c e T) (hs:isStar e = false) :
  It W c (.Call (.Name x p) [e] [] pos) (fun vs ob k => T vs ob fun a ob' => ∃ xs,a = .lst xs ∧ xs.length ≤ sizeLine ∧ k xs.reverse ob'):=by
 intro A hid vs ob k s as Q hA ht R hQ
 refine Call_Name (p:=p) rfl (hf A hid vs ob (fun a ob' => a = .cst (.type "reversed") ∧ T vs ob' fun a ob' => ∃ xs,a = .lst xs ∧ xs.length ≤ sizeLine ∧ k xs.reverse ob') s as _ hA ⟨rfl,ht⟩ R fun v h₁ t₁ a ob₁ as₁ hk₁ R₁ hv kp₁ ex₁ => ?_)
 obtain ⟨rfl,hk₁⟩:=hk₁
 revert hv
 refine fun hv => TV.cstE (show TV _ (.cst (.type "reversed")) v from hv) ?_
 have he:starEach [e] c.env = [(false,eval e c.env)]:=starEach_cons hs
 have hz:starEach [] c.env = []:=rfl
 have hes:Es W c [e] _:=Es.cons h Es.nil (by rw [he,hz])
 refine callWith_type1 (hes A hid vs ob₁ (fun avs ob' => is1 (fun a => ∃ xs,a = .lst xs ∧ xs.length ≤ sizeLine ∧ k xs.reverse ob') avs) { s with heap:=h₁,toks:=t₁ } as₁ pos _ hA hk₁ R₁ fun us h₂ t₂ avs ob₂ as₂ hk₂ R₂ hvs kp₂ ex₂ => ?_) (by rw [he,hz]) (by rw [hz]; rfl)
 obtain ⟨_,_,rfl,hu,xs,rfl,hsz,hk⟩:=is1_ok hvs hk₂
 obtain ⟨us,l,n,rfl,gl,t⟩:=hu.lst
 have kp:=kp₁.trans kp₂ ex₁.live
 have ex:=ex₁.trans kp₁ ex₂
 have hL:h₂.IsList l us.toArray:=⟨_,gl.1,rfl,n,rfl⟩
 refine call_reversed_list hL ?_
 have hI:=size_none h₂
 have g:∀ o:Obj,∀ b o',h₂.get? b = some o' → (h₂.push o).get? b = some o':=fun o => push_grow _ _
 refine wpAny_pyIter_revIter (it:=h₂.objs.size) (l:=l) (i:=(us.toArray.size:Int) - 1) ⟨_,Heap.get?_push_size _ rfl,rfl,rfl⟩ ?_
 have ne:l ≠ h₂.objs.size:=fun e => by have:=gl.1; rw [e,hI] at this; cases this
 have Wk:=Walks.listRev (prog:=W.prog) (w:=W.w) (A:=A) hA.1 h₂.objs.size l ne us.toArray
 have el:us.toArray.size = xs.reverse.length:=by rw [List.size_toArray,List.length_reverse,t.length]
 generalize hP:(fun (i:Nat) (v:Value) => us.toArray[us.toArray.size - 1 - i]? = some v) = P at Wk
 generalize hS:(fun (i:Nat) (h:Heap) => i ≤ us.toArray.size ∧ h.IsRevIter h₂.objs.size l ((us.toArray.size:Int) - 1 - (i:Int)) ∧ h.IsList l us.toArray) = St at Wk
 rw [el] at Wk
 subst hP
 subst hS
 refine hQ h₂.objs.size _ t₂ xs.reverse ob₂ as₂ _ _ _ hk (R₂.hide (g _) hI (by rw [Heap.get?_push_size _ rfl]; rfl)) (new_none kp _ hI) Wk ⟨Nat.zero_le _,⟨_,Heap.get?_push_size _ rfl,rfl,by unfold revObj; simp⟩,⟨_,g _ _ _ gl.1,rfl,n,rfl⟩⟩ (by rw [List.length_reverse]; exact hsz) (fp_ok gl (g _)) ?_ ?_ ?_ (kp.trans (Kp.grow (g _) []) fun _ ha => nomatch ha) ex
 ·intro j y u hx hP h₃ as₃ kp₃ ex₃
  have tr:=t.reverse
  obtain ⟨u',e',tu⟩:=tr.get hx
  have hjl:j < us.length:=by
   have:=(List.getElem?_eq_some_iff.mp e').1
   simpa using this
  have hP:us.toArray[us.toArray.size - 1 - j]? = some u:=hP
  rw [List.getElem?_reverse hjl] at e'
  have:us[us.length - 1 - j]? = some u:=by simpa using hP
  obtain rfl:=Option.some.inj (e'.symm.trans this)
  exact items_stand tu (g _) hI kp₃ ex₃
 ·intro i elts x1 pos u s₂ Q₂ st hq
  obtain ⟨_,⟨o,e1,e2,e3⟩,_⟩:=st
  exact letOwned_ok e1 e2 e3 (by decide) hq
 ·rintro i h ⟨_,⟨o,e1,_⟩,_⟩; rw [e1]; rfl
end
section
variable {W:Wd} {c:Cx} {hid:List Addr}
theorem cellsFrom_app:∀ (names:List (Str × NameKind)) (n:Nat) (acc:List (Str × Addr)),cellsFrom n names acc = cellsFrom n names [] ++ acc
 | [],_,_ => rfl
 | (name,kind) :: r,n,acc => by
  unfold cellsFrom
  split
  ·rw [cellsFrom_app r (n + 1) ((name,n) :: acc),cellsFrom_app r (n + 1) [(name,n)],List.append_assoc]; rfl
  ·exact cellsFrom_app r n acc
theorem cellsFrom_mem:∀ (names:List (Str × NameKind)) (n:Nat) {x:Str} {a:Addr},(x,a) ∈ cellsFrom n names [] → (x,NameKind.cell) ∈ names ∧ n ≤ a
 | [],_,_,_,h => by cases h
 | (name,kind) :: r,n,x,a,h => by
  unfold cellsFrom at h
  split at h
  ·rename_i hk
   rw [cellsFrom_app] at h
   rcases List.mem_append.mp h with q | q
   ·obtain ⟨h1,h2⟩:=cellsFrom_mem r (n + 1) q
    exact ⟨List.mem_cons_of_mem _ h1,by lia⟩
   ·have:=List.mem_singleton.mp q
    cases this
    have:kind = .cell:=by simpa using hk
    subst this
    exact ⟨List.mem_cons_self ..,Nat.le_refl _⟩
  ·obtain ⟨h1,h2⟩:=cellsFrom_mem r n h
   exact ⟨List.mem_cons_of_mem _ h1,h2⟩
theorem lookup_append {α:Type} {x:Str}:∀ {l l':List (Str × α)} {a:α},(l ++ l').lookup x = some a → l.lookup x = some a ∨ (l.lookup x = none ∧ l'.lookup x = some a)
 | [],_,_,h => .inr ⟨rfl,h⟩
 | p :: l,l',a,h => by
  rw [List.cons_append,List.lookup_cons] at h
  rw [List.lookup_cons]
  split at h
  ·exact .inl h
  ·exact lookup_append h
structure Enter (c':Cx) (h:Heap) (nm:List (Str × NameKind)) (cl:List (Str × Addr)) (o:Obj):Prop where
 kind:c'.env.scope.kind = .function
 glob:c'.env.globals = mainGlobals
 blt:c'.env.builtins = builtinsNs
 loc:c'.env.locals = h.objs.size
 cells:c'.env.cells = cellsFrom (h.objs.size + 1) nm [] ++ cl
 own:c'.own = h.objs.size :: (cellsFrom (h.objs.size + 1) nm []).map (·.2)
 names:(c'.env.scope.names.map (·.1)).Nodup
 data:o.data = .dict #[] 0
 nmd:(nm.map (·.1)).Nodup
theorem kind_unique {names:List (Str × NameKind)} (hn:(names.map (·.1)).Nodup) {x:Str} {k k':NameKind} (h:(x,k) ∈ names) (h':(x,k') ∈ names):k = k':=by
 obtain ⟨i,hi⟩:=List.getElem?_of_mem h
 obtain ⟨j,hj⟩:=List.getElem?_of_mem h'
 have:=idx_inj hn hi hj
 subst this
 rw [hi] at hj
 cases hj; rfl
theorem Rel.enter {vs vs₀:VS} {ob:OB} {as:AS} {h:Heap} {c':Cx} {nm:List (Str × NameKind)} {cl:List (Str × Addr)} {o:Obj} (R:Rel W c hid vs ob as h) (N:Enter c' h nm cl o)
  (hcl:∀ x cc,cl.lookup x = some cc → cc ∈ c.own ++ hid ∧ ∃ v,h.IsCell cc v) (hinj:∀ x y cc,cl.lookup x = some cc → cl.lookup y = some cc → x = y)
  (hvs:∀ i x k av,c'.env.scope.names[i]? = some (x,k) → getV vs₀ i = some av → (k = .free ∨ k = .cell) ∧ (x,NameKind.free) ∈ nm ∧ ∃ cc v,cl.lookup x = some cc ∧ h.IsCell cc (some v) ∧ VV c'.isclo (Gh W h (c.av hid as)) as av v) :
  Rel W c' (c.own ++ hid) vs₀ ob as (pushCells (h.push o) nm) ∧ (∀ b o',h.get? b = some o' → (pushCells (h.push o) nm).get? b = some o') ∧ (∀ a ∈ c'.own,h.get? a = Option.none):=by
 have g:∀ b o',h.get? b = some o' → (pushCells (h.push o) nm).get? b = some o':=fun b o' e => pushCells_keeps _ _ b o' (Heap.get?_push_of_some _ e)
 have hf:o.isFreed = false:=by
  have hd:=N.data
  cases o
  simp only at hd
  subst hd
  rfl
 have none_ge:∀ a,h.objs.size ≤ a → h.get? a = Option.none:=fun a ha => by
  cases e:h.get? a with
  | none => rfl
  | some o => exact absurd (Heap.lt_size e) (Nat.not_lt.mpr ha)
 have cok:=cellsFrom_ok nm (h.push o) (h.objs.size + 1) [] ⟨fun _ _ hm => (nomatch hm),List.Pairwise.nil⟩ (by rw [Heap.size_push]; exact Nat.le_refl _)
 rw [Heap.size_push] at cok
 have hnew:∀ a ∈ c'.own,h.get? a = Option.none:=fun a ha => by
  rw [N.own] at ha
  rcases List.mem_cons.mp ha with q | q
  ·rw [q]; exact none_ge _ (Nat.le_refl _)
  ·obtain ⟨⟨x,a'⟩,hm,rfl⟩:=List.mem_map.mp q
   exact none_ge _ (by have:=(cok.empty _ _ hm).2; show h.objs.size ≤ a'; lia)
 have hin:∀ a ∈ c'.own,((pushCells (h.push o) nm).get? a).isSome = true:=fun a ha => by
  rw [N.own] at ha
  rcases List.mem_cons.mp ha with q | q
  ·rw [q,pushCells_keeps _ _ _ _ (Heap.get?_push_size _ hf)]; rfl
  ·obtain ⟨⟨x,a'⟩,hm,rfl⟩:=List.mem_map.mp q
   obtain ⟨⟨o',e,_⟩,_⟩:=cok.empty _ _ hm
   show ((pushCells (h.push o) nm).get? a').isSome = true
   rw [e]; rfl
 have old:∀ a ∈ c.av hid as,(h.get? a).isSome = true:=fun a ha => (R.base.dis a ha).2.1
 have av:∀ a,a ∈ c'.av (c.own ++ hid) as → a ∈ c'.own ∨ a ∈ c.av hid as:=fun a ha => by
  rcases List.mem_append.mp ha with q | q
  ·exact (List.mem_append.mp q).imp id mem_av_oh
  ·exact .inr (mem_av_live q)
 have kp:Kp W [] h (pushCells (h.push o) nm):=Kp.grow g _
 have hs:∀ a ∈ c'.own ++ (c.own ++ hid),a ∈ c.av hid as ∨ h.get? a = Option.none:=fun a ha => (List.mem_append.mp ha).elim (fun q => .inr (hnew a q)) fun q => .inl (mem_av_oh q)
 have celln:∀ x cc,(cellsFrom (h.objs.size + 1) nm []).lookup x = some cc → (x,cc) ∈ cellsFrom (h.objs.size + 1) nm []:=fun x cc e => mem_of_lookup e
 refine ⟨⟨⟨N.kind,N.glob,N.blt,by rw [N.loc,N.own]; exact List.mem_cons_self ..,fun x cc e => ?_,fun x y cc e e' => ?_,N.names⟩,R.base.step (fun b o _ e => g b o e) kp.2 fun a ha => ?_,?_,⟨fun x cc e => ?_,fun _ => Option.none,?_,fun i x k av e1 e2 => ?_⟩,R.objs.1,?_⟩,g,hnew⟩
 ·rw [N.cells] at e
  rcases lookup_append e with q | ⟨_,q⟩
  ·exact List.mem_append_left _ (by rw [N.own]; exact List.mem_cons_of_mem _ (List.mem_map.mpr ⟨_,celln _ _ q,rfl⟩))
  ·exact List.mem_append_right _ (hcl x cc q).1
 ·rw [N.cells] at e e'
  have out:∀ z,(cellsFrom (h.objs.size + 1) nm []).lookup z = some cc → ∀ w,cl.lookup w = some cc → False:=fun z ez w ew => by
   have h1:=(cok.empty _ _ (celln _ _ ez)).2
   have h2:=old cc (mem_av_oh (hcl w cc ew).1)
   rw [none_ge cc (by lia)] at h2; cases h2
  rcases lookup_append e with q | ⟨_,q⟩ <;> rcases lookup_append e' with q' | ⟨_,q'⟩
  ·exact name_of_addr cok.apart (celln _ _ q) (celln _ _ q')
  ·exact (out _ q _ q').elim
  ·exact (out _ q' _ q).elim
  ·exact hinj x y cc q q'
 ·exact (av a ha).elim (fun q => .inr ⟨hnew a q,hin a q⟩) .inl
 ·show (c'.own ++ (c.own ++ hid) ++ live as).Nodup
  rw [List.append_assoc]
  refine List.nodup_append.mpr ⟨?_,R.nodup,fun a ha b hb e => ?_⟩
  ·rw [N.own]
   refine List.nodup_cons.mpr ⟨fun hm => ?_,?_⟩
   ·obtain ⟨⟨x,a'⟩,hm,e⟩:=List.mem_map.mp hm
    have this:h.objs.size + 1 ≤ a':=(cok.empty _ _ hm).2
    have e:a' = h.objs.size:=e
    rw [e] at this
    exact Nat.lt_irrefl _ this
   ·exact List.pairwise_map.mpr cok.apart
  ·have:=old b hb
   rw [← e,hnew a ha] at this; cases this
 ·rw [N.cells] at e
  rcases lookup_append e with q | ⟨_,q⟩
  ·exact ⟨_,(cok.empty _ _ (celln _ _ q)).1⟩
  ·obtain ⟨v,ic⟩:=(hcl x cc q).2
   exact ⟨v,ic.keeps g⟩
 ·rw [N.loc]
  exact ⟨o,#[],0,pushCells_keeps _ _ _ _ (Heap.get?_push_size _ hf),N.data,by intro i hi; simp at hi,fun _ => rfl⟩
 ·obtain ⟨hk,hfr,cc,v,e3,ic,vv⟩:=hvs i x k av e1 e2
  have hcc:c'.env.cells.lookup x = some cc:=?_
  ·refine ⟨v,?_,vv.kp kp (fun _ ha => nomatch ha) .refl hs⟩
   rcases hk with rfl | rfl <;> exact ⟨cc,hcc,ic.keeps g⟩
  rw [N.cells]
  have hx:(cellsFrom (h.objs.size + 1) nm []).lookup x = Option.none:=by
   cases q:(cellsFrom (h.objs.size + 1) nm []).lookup x with
   | none => rfl
   | some a =>
    have:=kind_unique N.nmd (cellsFrom_mem _ _ (celln _ _ q)).1 hfr
    cases this
  have:∀ (l:List (Str × Addr)),l.lookup x = Option.none → (l ++ cl).lookup x = cl.lookup x:=fun l => by
   induction l with
   | nil => intro _; rfl
   | cons p l ih =>
    intro hl
    rw [List.lookup_cons] at hl
    rw [List.cons_append,List.lookup_cons]
    split at hl
    ·cases hl
    ·exact ih hl
  rw [this _ hx]; exact e3
 ·intro i o' e
  exact R.objs.kp (c':=c') (hid':=c.own ++ hid) kp (fun _ ha => nomatch ha) (fun _ _ ha => nomatch ha) (fun a ha => (R.base.dis a (mem_av_live ha)).2.2) .refl (fun _ _ e => e) hs i o' e
end
section
variable {W:Wd} {c:Cx} {hid:List Addr}
theorem Rel.leave {vs vs':VS} {ob ob':OB} {as as':AS} {h h' h'':Heap} {c':Cx} (R:Rel W c hid vs ob as h) (R':Rel W c' (c.own ++ hid) vs' ob' as' h') (k:Kp W (live as) h h'') (ex:Ex h as as')
  (g:∀ b o,b ∉ c'.own → h'.get? b = some o → h''.get? b = some o) :
  Rel W c hid vs ob' as' h'' ∧ (∀ a o,Gh W h' (c'.av (c.own ++ hid) as') a o → Gh W h'' (c.av hid as') a o):=by
 have sub:∀ a ∈ c.av hid as',a ∈ c'.av (c.own ++ hid) as':=fun a ha => by
  rcases List.mem_append.mp ha with q | q
  ·exact mem_av_hid q
  ·exact mem_av_live q
 have up:∀ a o,Gh W h' (c'.av (c.own ++ hid) as') a o → Gh W h'' (c.av hid as') a o:=fun a o ⟨e,h1,h2⟩ => ⟨g a o (fun q => h1 (mem_av_own q)) e,fun q => h1 (sub a q),h2⟩
 have nd:(c'.own ++ c.av hid as').Nodup:=by
  have:=R'.nodup
  unfold Cx.av at this ⊢
  rw [List.append_assoc] at this
  exact this
 have dis:∀ a ∈ c'.own,a ∉ c.av hid as':=fun a ha hm => (List.nodup_append.mp nd).2.2 a ha a hm rfl
 refine ⟨⟨R.ok,R'.base.drop sub (fun a ha => mem_av_own ha) dis g,(List.nodup_append.mp nd).2.1,R.varsStep k ex,R'.objs.1,fun i o e => ?_⟩,up⟩
 obtain ⟨p,ep,r⟩:=R'.objs.2 i o e
 exact ⟨p,ep,r.mono up fun hb a ha o => g a o fun q => dis a q (mem_av_live (mem_live_of ep hb ha))⟩
theorem VV.other {C C':CP} {G:GP} {as:AS} {x v} (t:VV C G as x v) (h:∀ i,x ≠ .clo i):VV C' G as x v:=by
 cases t.i with
 | loc e => exact ⟨_,_,rfl,e⟩
 | clo => exact absurd rfl (h _)
 | of t => exact .of t
noncomputable abbrev TC:=VS → OB → (List AV → OB → Prop) → Prop
noncomputable def compT (Ta:TT) (Tc:TB) (Te:TE):List AV → List AV → TC
 | [],acc => fun _ ob k => acc.length ≤ sizeLine ∧ k acc ob
 | x :: xs,acc => fun vs ob k => acc.length < sizeLine ∧ Ta x vs ob fun vs₁ ob₁ => Tc vs₁ ob₁ fun b ob₂ =>
   (b = true → Te vs₁ ob₂ fun y ob₃ => y.tree = true ∧ compT Ta Tc Te xs (acc ++ [y]) vs₁ ob₃ k) ∧ (b = false → compT Ta Tc Te xs acc vs₁ ob₂ k)
noncomputable def Ifs (W:Wd) (c:Cx) (ifs:List Expr) (T:TB):Prop :=
 ∀ (A:Around) (hid:List Addr) (vs:VS) (ob:OB) (k:Bool → OB → Prop) (s:Shared) (as:AS) (Q:Bool → Shared → Prop),
  OkA c.d A → T vs ob k → Rel W c hid vs ob as s.heap →
  (∀ (b:Bool) (h':Heap) (tk:Nat) (ob':OB) (as':AS),k b ob' → Rel W c hid vs ob' as' h' → Kp W (live as) s.heap h' → Ex s.heap as as' → Q b { s with heap:=h',toks:=tk }) →
  wpAny (model W.prog W.w) A (forIn ifs true fun e r => if r = true then do let ok ← isTrue e c.env (eval e c.env); pure (ForInStep.yield ok) else pure (ForInStep.yield r)) Q (fun _ _ => False) s
theorem Ifs.nil:Ifs W c [] (fun _ ob k => k true ob):=fun _ _ _ _ _ s as _ _ hk R hQ => by
 rw [List.forIn_nil]
 exact wpAny_pure (hQ true s.heap s.toks _ as hk R .refl .refl)
theorem Ifs.one {e:Expr} {T:TB} (h:Is W c e T):Ifs W c [e] T:=fun A hid vs ob k s as Q hA ht R hQ => by
 rw [List.forIn_cons]
 simp only [if_true]
 refine wpAny_bind (wpAny_bind (h A hid vs ob k s as _ hA ht R fun b h' tk ob' as' hk R' kp ex => wpAny_pure ?_))
 dsimp only
 rw [List.forIn_nil]
 exact wpAny_pure (hQ b h' tk ob' as' hk R' kp ex)
end
section
variable {W:Wd} {c:Cx} {hid:List Addr}
theorem compLoop_ok {A:Around} {elt target iter:Expr} {ifs:List Expr} {scope:Scope} {pos:Pos} {it acc:Value} {env:Env} {R:Result → Shared → Prop} {s:Shared} (I:Nat → Shared → Prop)
  (turn:∀ n s,I n s → wpAny (model W.prog W.w) A (pyNext it) (fun r s₁ => match r with
   | none => R (.ok .next) s₁
   | some v => wpAny (model W.prog W.w) A (letOwnedTupleGo target it v) (fun _ s₁' => wpAny (model W.prog W.w) A (PySem.assign target env v) (fun _ s₂ =>
     wpAny (model W.prog W.w) A (forIn ifs true fun c r => if r = true then do let ok ← isTrue c env (eval c env); pure (ForInStep.yield ok) else pure (ForInStep.yield r)) (fun ok s₃ =>
      if ok = true then wpAny (model W.prog W.w) A (eval elt env) (fun x s₄ => wpAny (model W.prog W.w) A (PySem.call (.builtin "list.append") [acc,x]) (fun _ s₅ => ∃ m,m < n ∧ I m s₅) (fun _ _ => False) s₄) (fun _ _ => False) s₃
      else ∃ m,m < n ∧ I m s₃) (fun _ _ => False) s₂) (fun _ _ => False) s₁') (fun _ _ => False) s₁) (fun _ _ => False) s)
  (n:Nat) (h:I n s):codeAny (model W.prog W.w) A (.compLoop (.ListComp elt [⟨target,iter,ifs,0⟩] scope pos) 0 it acc env) R s:=by
 refine codeAny_loop rfl I (fun n s hI => ?_) n h
 show wpAny _ A ((compTurn (.ListComp elt [⟨target,iter,ifs,0⟩] scope pos) 0 it acc env).onRaise (fun x => do noteFrame x env; theTreesLotGoes x)) _ _ s
 refine wpAny_noted ?_
 rw [compTurn_list]
 refine wpAny_bind (wpAny_standAt (wpAny_bind (wpAny_mono (turn n s hI) (fun r s₁ h₁ => ?_) fun _ _ f => f.elim)))
 cases r with
 | none => exact wpAny_pure h₁
 | some v =>
  refine wpAny_bind (wpAny_mono h₁ (fun _ s₁' h₂ => ?_) fun _ _ f => f.elim)
  refine wpAny_bind (wpAny_mono h₂ (fun _ s₂ h₃ => wpAny_bind (wpAny_mono h₃ (fun ok s₃ h₄ => ?_) fun _ _ f => f.elim)) fun _ _ f => f.elim)
  cases ok with
  | false => exact wpAny_pure ⟨rfl,h₄⟩
  | true =>
   exact wpAny_bind (wpAny_bind (wpAny_mono h₄ (fun x s₄ h₅ => wpAny_bind (wpAny_mono h₅ (fun _ s₅ h₆ => wpAny_pure (wpAny_pure ⟨rfl,h₆⟩)) fun _ _ f => f.elim)) fun _ _ f => f.elim))
theorem Rel.hidAny {vs:VS} {ob as h h'} {I:Addr} (R:Rel W c hid vs ob as h) (hI:I ∈ hid) (hc:∀ x cc,c.env.cells.lookup x = some cc → cc ≠ I) (g:∀ b o,b ≠ I → h.get? b = some o → h'.get? b = some o) (hI':(h'.get? I).isSome = true) :
  Rel W c hid vs ob as h' ∧ (∀ a o,Gh W h (c.av hid as) a o → Gh W h' (c.av hid as) a o):=by
 have hm:I ∈ c.av hid as:=mem_av_hid hI
 have kp:Kp W [I] h h':=⟨fun b o hb _ e => g b o (fun q => hb (q ▸ List.mem_singleton_self _)) e,fun b e => by
  by_cases q:b = I
  ·rw [q]; exact hI'
  ·cases z:h.get? b with
   | none => (first | exact noO z e | exact noI z e | (rw [z] at e; cases e))
   | some o => rw [g b o q z]; rfl⟩
 have hav:∀ b ∈ [I],b ∈ c.av hid as:=fun b hb => by rw [List.mem_singleton.mp hb]; exact hm
 have nl:c.env.locals ≠ I:=fun e => own_not_hid R.nodup R.ok.loc (e ▸ hI)
 refine ⟨⟨R.ok,R.base.step (fun b o hb e => g b o (fun q => hb (q ▸ hm)) e) kp.2 fun b hb => .inl hb,R.nodup,?_,⟨R.objs.1,R.objs.kp kp (fun b hb => .inl (hav b hb)) (fun b hb q => ?_) (fun b hb => (R.base.dis b (mem_av_live hb)).2.2) .refl (fun _ _ e => e) fun _ ha => .inl (mem_av_oh ha)⟩⟩,
  fun a o ⟨e,h1,h2⟩ => ⟨g a o (fun q => h1 (q ▸ hm)) e,h1,h2⟩⟩
 ·obtain ⟨hcs,m,hm,hv⟩:=R.vars
  refine ⟨fun x cc e => (hcs x cc e).imp fun v ic => isCell_kp ic fun o e' => g _ _ (hc x cc e) e',m,?_,fun i x k av e1 e2 => ?_⟩
  ·obtain ⟨o,es,ep,e,r⟩:=hm
   exact ⟨o,es,ep,g _ _ nl e,r⟩
  ·obtain ⟨v,q1,q2⟩:=hv i x k av e1 e2
   refine ⟨v,?_,q2.step kp hav .refl⟩
   unfold SlotIs at q1 ⊢
   cases k <;> first | exact q1 | (obtain ⟨cc,e,ic⟩:=q1; exact ⟨cc,e,isCell_kp ic fun o e' => g _ _ (hc _ _ e) e'⟩)
 ·rw [List.mem_singleton.mp q] at hb
  exact oh_not_live R.nodup (List.mem_append_right _ hI) hb
theorem Rel.sub {vs:VS} {ob as h h'} {hid' Dl:List Addr} (R:Rel W c hid vs ob as h) (hs:hid'.Sublist hid) (hc:∀ x cc,c.env.cells.lookup x = some cc → cc ∈ c.own ++ hid') (hD:∀ a ∈ Dl,a ∈ hid) (hDn:∀ a ∈ Dl,a ∉ c.av hid' as)
  (g:∀ b o,b ∉ Dl → h.get? b = some o → h'.get? b = some o):Rel W c hid' vs ob as h' ∧ (∀ a o,Gh W h (c.av hid as) a o → Gh W h' (c.av hid' as) a o):=by
 have sub:∀ a ∈ c.av hid' as,a ∈ c.av hid as:=fun a ha => by
  rcases List.mem_append.mp ha with q | q
  ·rcases List.mem_append.mp q with q | q
   ·exact mem_av_own q
   ·exact mem_av_hid (hs.subset q)
  ·exact mem_av_live q
 have up:∀ a o,Gh W h (c.av hid as) a o → Gh W h' (c.av hid' as) a o:=fun a o ⟨e,h1,h2⟩ => ⟨g a o (fun q => h1 (mem_av_hid (hD a q))) e,fun q => h1 (sub a q),h2⟩
 have own:∀ a o,a ∈ c.own ++ hid' → h.get? a = some o → h'.get? a = some o:=fun a o ha e => g a o (fun q => hDn a q (mem_av_oh ha)) e
 refine ⟨⟨⟨R.ok.kind,R.ok.glob,R.ok.blt,R.ok.loc,hc,R.ok.cinj,R.ok.names⟩,R.base.drop sub (fun a ha => mem_av_hid (hD a ha)) hDn g,?_,?_,R.objs.1,fun i o e => ?_⟩,up⟩
 ·exact List.Nodup.sublist (List.Sublist.append (List.Sublist.append (List.Sublist.refl _) hs) (List.Sublist.refl _)) R.nodup
 ·obtain ⟨hcs,m,hm,hv⟩:=R.vars
  refine ⟨fun x cc e => (hcs x cc e).imp fun v ic => isCell_kp ic fun o e' => own _ _ (hc x cc e) e',m,?_,fun i x k av e1 e2 => ?_⟩
  ·obtain ⟨o,es,ep,e,r⟩:=hm
   exact ⟨o,es,ep,own _ _ (List.mem_append_left _ R.ok.loc) e,r⟩
  ·obtain ⟨v,q1,q2⟩:=hv i x k av e1 e2
   refine ⟨v,?_,q2.mono up⟩
   unfold SlotIs at q1 ⊢
   cases k <;> first | exact q1 | (obtain ⟨cc,e,ic⟩:=q1; exact ⟨cc,e,isCell_kp ic fun o e' => own _ _ (hc _ _ e) e'⟩)
 ·obtain ⟨a,ea,r⟩:=R.objs.2 i o e
  exact ⟨a,ea,r.mono up fun hb a' ha' o e => g a' o (fun q => hDn a' q (mem_av_live (mem_live_of ea hb ha'))) e⟩
noncomputable def compCx (c:Cx) (scope:Scope) (cl:List (Str × Addr)) (L:Addr):Cx :=
 { env:={ scope:=relabel scope c.env,locals:=L,globals:=c.env.globals,cells:=cellsFrom (L + 1) scope.names cl,qual:=c.env.qual,func:=none,code:=c.env.code,frame:=c.env.frame,builtins:=c.env.builtins },own:=L :: (cellsFrom (L + 1) scope.names []).map (·.2),d:=c.d,isclo:=c.isclo }
theorem relabel_get {scope:Scope} {env:Env} {i:Nat} {x:Str} {k:NameKind} (h:(relabel scope env).names[i]? = some (x,k)):∃ k₀,scope.names[i]? = some (x,k₀) ∧ (k = k₀ ∨ (k₀ = .free ∧ k = .cell)):=by
 unfold relabel at h
 dsimp only at h
 rw [List.getElem?_map] at h
 cases q:scope.names[i]? with
 | none => (first | exact noO q h | exact noI q h | (rw [q] at h; cases h))
 | some p =>
  obtain ⟨y,k₀⟩:=p
  rw [q] at h
  simp only [Option.map_some,Option.some.injEq] at h
  by_cases hc:(k₀ == NameKind.free && env.scope.kind == ScopeKind.function && env.kindOf y == some NameKind.cell) = true
  ·rw [if_pos hc] at h
   have e1:y = x:=congrArg Prod.fst h
   have e2:NameKind.cell = k:=congrArg Prod.snd h
   simp only [Bool.and_eq_true,beq_iff_eq] at hc
   exact ⟨k₀,by rw [e1],.inr ⟨hc.1.1,e2.symm⟩⟩
  ·rw [if_neg hc] at h
   have e1:y = x:=congrArg Prod.fst h
   have e2:k₀ = k:=congrArg Prod.snd h
   exact ⟨k₀,by rw [e1],.inl e2.symm⟩
theorem relabel_fst {scope:Scope} {env:Env}:(relabel scope env).names.map (·.1) = scope.names.map (·.1):=by
 unfold relabel
 dsimp only
 rw [List.map_map]
 refine List.map_congr_left fun p _ => ?_
 obtain ⟨x,k⟩:=p
 simp only [Function.comp]
 by_cases hc:(k == NameKind.free && env.scope.kind == ScopeKind.function && env.kindOf x == some NameKind.cell) = true
 ·rw [if_pos hc]
 ·rw [if_neg hc]
theorem wpAny_newCompEnv {A:Around} {scope:Scope} {cl:List (Str × Addr)} {env:Env} {s:Shared} {Q:Env → Shared → Prop} (hk:scope.kind = .function)
  (h:Q { scope:=scope,locals:=s.heap.objs.size,globals:=env.globals,cells:=cellsFrom (s.heap.objs.size + 1) scope.names cl,qual:=env.qual,func:=none,code:=env.code,frame:=env.frame,builtins:=env.builtins }
   { s with heap:=pushCells (s.heap.push { cls:=.type "dict",data:=.dict #[] }) scope.names }) :
  wpAny (model W.prog W.w) A (newFunctionEnv scope env.globals cl [] env.qual none .none (some env)) Q (fun _ _ => False) s:=by
 simp only [newFunctionEnv,Option.isSome_some,if_true]
 refine wpAny_bind (wpAny_alloc ?_)
 refine wpAny_bind (wpAny_layCells _ (fun name kind cells => by cases hkc:kind == NameKind.cell <;> simp [hkc]) _ _ _ _ ?_)
 rw [show ({ s with heap:=s.heap.push { cls:=.type "dict",data:=.dict #[] } }:Shared).heap.objs.size = s.heap.objs.size + 1 from Heap.size_push ..]
 rw [List.forIn_nil]
 exact wpAny_bind (wpAny_pure (wpAny_pure h))
theorem compRun {elt target iter:Expr} {ifs:List Expr} {scope:Scope} {pos:Pos} {Ta:TT} {Tc:TB} {Te:TE} {A:Around} {C':Cx} {H fp:List Addr} {D I:Addr} {items:List AV} {P:Nat → Value → Prop} {St:Nat → Heap → Prop} {s:Shared} {k:List AV → OB → Prop} {RD:Result → Shared → Prop}
  {t₁:Nat} {h₃:Heap} {vs₁:VS} {ob₁:OB} {as₁:AS} (X:Heap → AS → Prop) (hTg:Tg W C' target Ta) (hIf:Ifs W C' ifs Tc) (hE:E W C' elt Te) (htn:(∃ x p,target = .Name x p) ∨ ∃ es k p,target = .Tuple es k p) (hA:OkA C'.d A)
  (Wk:Walks W.prog W.w A I fp [I] items.length P St) (hsz:items.length ≤ sizeLine)
  (hgo:∀ (i:Nat) (elts:List Expr) (x1:Nat) (pos:Pos) (v:Value) (s₂:Shared) (Q₂:Unit → Shared → Prop),St i s₂.heap → Q₂ () s₂ → wpAny (model W.prog W.w) A (letOwnedTupleGo (.Tuple elts x1 pos) (.ref I) v) Q₂ (fun _ _ => False) s₂)
  (xStep:∀ {vs:VS} {ob:OB} {as as':AS} {h h':Heap} {l:List Addr},Rel W C' H vs ob as h → X h as → Kp W l h h' → (∀ a ∈ l,a ∈ C'.own ++ live as) → Ex h as as' → X h' as' ∧ (∀ j,St j h → St j h') ∧ ∀ {acc:List AV} {us:List Value},h.PlainList D us.toArray → TVs (Gh W h (C'.av H as)) acc us → h'.PlainList D us.toArray ∧ TVs (Gh W h' (C'.av H as')) acc us)
  (iStep:∀ {vs:VS} {ob:OB} {as:AS} {h h':Heap} {j:Nat} {v:Value} (hlt:j < items.length),P j v → Rel W C' H vs ob as h → X h as → (∀ b o,b ∉ [I] → h.get? b = some o → h'.get? b = some o) → St (j + 1) h' → Rel W C' H vs ob as h' ∧ X h' as ∧ TV (Gh W h' (C'.av H as)) items[j] v ∧ ∀ {acc:List AV} {us:List Value},h.PlainList D us.toArray → TVs (Gh W h (C'.av H as)) acc us → h'.PlainList D us.toArray ∧ TVs (Gh W h' (C'.av H as)) acc us)
  (dStep:∀ {vs:VS} {ob:OB} {as:AS} {h h':Heap},Rel W C' H vs ob as h → X h as → (∀ b o,b ≠ D → h.get? b = some o → h'.get? b = some o) → (h'.get? D).isSome = true → Rel W C' H vs ob as h' ∧ X h' as ∧ (∀ j,St j h → St j h') ∧ ∀ a o,Gh W h (C'.av H as) a o → Gh W h' (C'.av H as) a o)
  (done:∀ {h h₄:Heap} {tk:Nat} {vs:VS} {ob:OB} {as:AS} {xs:List AV} {us:List Value},k xs ob → Rel W C' H vs ob as h → X h as → h.PlainList D us.toArray → TVs (Gh W h (C'.av H as)) xs us → (∀ b o,b ∉ [I] → h.get? b = some o → h₄.get? b = some o) → RD (.ok .next) { s with heap:=h₄,toks:=tk })
  (R₃:Rel W C' H vs₁ ob₁ as₁ h₃) (x₃:X h₃ as₁) (st₃:St 0 h₃) (hk:compT Ta Tc Te items [] vs₁ ob₁ k) (hp₃:h₃.PlainList D ([]:List Value).toArray) :
  codeAny (model W.prog W.w) A (.compLoop (.ListComp elt [⟨target,iter,ifs,0⟩] scope pos) 0 (.ref I) (.ref D) C'.env) RD { s with heap:=h₃,toks:=t₁ }:=by
 obtain ⟨J,mkJ,elJ⟩:∃ J:Nat → Shared → Prop,(∀ j h tk vs ob as acc us,j ≤ items.length → Rel W C' H vs ob as h → X h as → St j h → compT Ta Tc Te (items.drop j) acc vs ob k → h.PlainList D (us:List Value).toArray → TVs (Gh W h (C'.av H as)) acc us → J (items.length - j) { s with heap:=h,toks:=tk }) ∧
   ∀ n s',J n s' → ∃ j h tk vs ob as acc us,s' = { s with heap:=h,toks:=tk } ∧ n = items.length - j ∧ j ≤ items.length ∧ Rel W C' H vs ob as h ∧ X h as ∧ St j h ∧ compT Ta Tc Te (items.drop j) acc vs ob k ∧ h.PlainList D (us:List Value).toArray ∧ TVs (Gh W h (C'.av H as)) acc us :=
  ⟨_,fun j h tk vs ob as acc us a1 a2 a3 a4 a5 a6 a7 => ⟨j,h,tk,vs,ob,as,acc,us,rfl,rfl,a1,a2,a3,a4,a5,a6,a7⟩,fun _ _ h => h⟩
 refine compLoop_ok J ?_ items.length (mkJ 0 h₃ t₁ vs₁ ob₁ as₁ [] [] (Nat.zero_le _) R₃ x₃ st₃ hk hp₃ .nil)
 intro n s' hJ
 obtain ⟨j,h,tk,vs',ob',as',acc,us,rfl,rfl,hj,R',x,st',hT',hp,ta⟩:=elJ n s' hJ
 clear elJ hJ
 by_cases hlt:j < items.length
 ·rw [List.drop_eq_getElem_cons hlt] at hT'
  obtain ⟨hacc,hT'⟩:=hT'
  refine Wk.item j { s with heap:=h,toks:=tk } _ _ hlt st' fun v h₄ t₄ hP st₄ hk₄ => ?_
  obtain ⟨R₄,x₄,hv,pl₄⟩:=iStep hlt hP R' x hk₄ st₄
  refine ownedAny htn (fun es kk p hq => hgo (j + 1) es kk p v _ _ st₄ hq) ?_
  refine hTg A _ vs' ob' _ { s with heap:=h₄,toks:=t₄ } as' _ items[j] v hA hT' R₄ (VV.of hv) fun h₅ t₅ vs₅ ob₅ hT₅ R₅ kp₅ => ?_
  obtain ⟨x₅,st₅,pl₅⟩:=xStep R₄ x₄ kp₅ (fun a ha => List.mem_append_left _ ha) .refl
  refine hIf A _ vs₅ ob₅ _ { s with heap:=h₅,toks:=t₅ } as' _ hA hT₅ R₅ fun b h₆ t₆ ob₆ as₆ hT₆ R₆ kp₆ ex₆ => ?_
  obtain ⟨x₆,st₆,pl₆⟩:=xStep R₅ x₅ kp₆ (fun a ha => List.mem_append_right _ ha) ex₆
  obtain ⟨hp₄,ta₄⟩:=pl₄ hp ta
  obtain ⟨hp₅,ta₅⟩:=pl₅ hp₄ ta₄
  obtain ⟨hp₆,ta₆⟩:=pl₆ hp₅ ta₅
  have st₆:=st₆ _ (st₅ _ st₄)
  clear pl₄ pl₅ pl₆ hp₄ ta₄ hp₅ ta₅ st₅ x₄ x₅
  cases b with
  | false =>
   rw [if_neg Bool.false_ne_true]
   exact ⟨_,Nat.sub_succ_lt_self _ _ hlt,mkJ (j + 1) h₆ t₆ vs₅ ob₆ as₆ acc us hlt R₆ x₆ st₆ (hT₆.2 rfl) hp₆ ta₆⟩
  | true =>
   rw [if_pos rfl]
   refine hE A _ vs₅ ob₆ _ { s with heap:=h₆,toks:=t₆ } as₆ _ hA (hT₆.1 rfl) R₆ fun y h₇ t₇ av ob₇ as₇ hT₇ R₇ hy kp₇ ex₇ => ?_
   obtain ⟨x₇,st₇,pl₇⟩:=xStep R₆ x₆ kp₇ (fun a ha => List.mem_append_right _ ha) ex₇
   obtain ⟨hp₇,ta₇⟩:=pl₇ hp₆ ta₆
   refine wpAny_list_append_plain (items:=us.toArray) hp₇ (fun h₈ hp₈ hsb => ?_) (by rw [List.size_toArray,ta₇.length.symm]; lia)
   rw [show us.toArray.push y = (us ++ [y]).toArray by simp] at hp₈
   obtain ⟨R₈,x₈,st₈,up₈⟩:=dStep R₇ x₇ (fun b o hb e => (hsb.2 b hb).trans e) (by obtain ⟨n,e⟩:=hp₈; rw [e]; rfl)
   exact ⟨_,Nat.sub_succ_lt_self _ _ hlt,mkJ (j + 1) h₈ t₇ vs₅ ob₇ as₇ (acc ++ [av]) (us ++ [y]) hlt R₈ x₈ (st₈ _ (st₇ _ st₆)) hT₇.2 hp₈ ((ta₇.mono up₈).append (.one ((hy.tree hT₇.1).mono up₈)))⟩
 ·obtain rfl:=Nat.le_antisymm hj (Nat.le_of_not_lt hlt)
  rw [List.drop_length] at hT'
  exact Wk.done { s with heap:=h,toks:=tk } _ _ st' fun h₄ t₄ hk₄ => done hT'.2 R' x hp ta hk₄
theorem compCore {elt target iter:Expr} {ifs:List Expr} {scope:Scope} {pos:Pos} {cl:List (Str × Addr)} {Ti:TI} {Ta:TT} {Tc:TB} {Te:TE} (vs0:VS → VS)
  (hit:It W c iter Ti) (hkind:scope.kind = .function) (hnd:(scope.names.map (·.1)).Nodup)
  (hcl:∀ x cc,cl.lookup x = some cc → c.env.cells.lookup x = some cc)
  (hv0:∀ vs i x k av,scope.names[i]? = some (x,k) → getV (vs0 vs) i = some av → k = .free ∧ (cl.lookup x).isSome = true ∧ ∃ j kk,c.env.scope.names[j]? = some (x,kk) ∧ (kk = .cell ∨ kk = .free) ∧ getV vs j = some av)
  (hT:∀ L,Tg W (compCx c scope cl L) target Ta ∧ Ifs W (compCx c scope cl L) ifs Tc ∧ E W (compCx c scope cl L) elt Te)
  (htn:(∃ x p,target = .Name x p) ∨ ∃ es k p,target = .Tuple es k p)
  {A:Around} {vs:VS} {ob:OB} {k:List AV → OB → Prop} {s:Shared} {as:AS} {RR:Value → Addr → Result → Shared → Prop} (hA:OkA c.d A) (ht:Ti vs ob fun items ob₁ => compT Ta Tc Te items [] (vs0 vs) ob₁ k) (R:Rel W c hid vs ob as s.heap)
  (hRR:∀ (D L:Addr) (h:Heap) (tk:Nat) (vs':VS) (ob':OB) (as':AS) (xs:List AV),k xs ob' → Rel W (compCx c scope cl L) (c.own ++ hid) vs' ob' as' h → TV (Gh W h ((compCx c scope cl L).av (c.own ++ hid) as')) (.lst xs) (.ref D) →
   Kp W (live as) s.heap h → (∀ a ∈ (compCx c scope cl L).own,s.heap.get? a = Option.none) → Ex s.heap as as' → RR (.ref D) L (.ok .next) { s with heap:=h,toks:=tk }) :
  wpAny (model W.prog W.w) A (eval iter c.env) (fun x s₁ => wpAny (model W.prog W.w) A (pyIter x) (fun it s₂ => wpAny (model W.prog W.w) A (newList []) (fun acc s₃ =>
   wpAny (model W.prog W.w) A (newFunctionEnv scope c.env.globals cl [] c.env.qual none .none (some c.env)) (fun cenv s₄ =>
    codeAny (model W.prog W.w) A (.compStart (.ListComp elt [⟨target,iter,ifs,0⟩] scope pos) 0 it acc { cenv with scope:=relabel scope c.env }) (RR acc cenv.locals) s₄) (fun _ _ => False) s₃) (fun _ _ => False) s₂) (fun _ _ => False) s₁) (fun _ _ => False) s:=by
 refine hit A hid vs ob _ s as _ hA ht R fun I h₁ t₁ items ob₁ as₁ fp P St hk R₁ hI Wk st hsz hfp hitems hgo hsI kp ex => ?_
 refine wpAny_newObj_type ?_;refine wpAny_newCompEnv hkind ?_
 dsimp only
 have gD:∀ b o,h₁.get? b = some o → (h₁.push (lstO [] 0)).get? b = some o:=push_grow _ _
 have hDn:h₁.get? h₁.objs.size = Option.none:=size_none _
 have hDin:(h₁.push (lstO [] 0)).get? h₁.objs.size = some (lstO [] 0):=Heap.get?_push_size _ rfl
 have R₂:Rel W c (h₁.objs.size :: I :: hid) vs ob₁ as₁ (h₁.push (lstO [] 0)):=R₁.hide gD hDn (by rw [hDin]; rfl)
 generalize hDe:h₁.objs.size = D at hDn hDin R₂
 generalize hL:(h₁.push (lstO [] 0)).objs.size = L
 have hcin:∀ x cc,c.env.cells.lookup x = some cc → cc ∈ c.own ++ hid:=R.ok.cells
 have N:Enter (compCx c scope cl L) (h₁.push (lstO [] 0)) scope.names cl { cls:=.type "dict",data:=.dict #[] }:=by
  refine ⟨?_,R.ok.glob,R.ok.blt,hL.symm,?_,?_,?_,rfl,hnd⟩
  ·show (relabel scope c.env).kind = .function
   exact hkind
  ·rw [hL]; exact cellsFrom_app _ _ _
  ·rw [hL]; rfl
  ·show ((relabel scope c.env).names.map (·.1)).Nodup
   rw [relabel_fst]; exact hnd
 obtain ⟨hc₂,_,hm₂,hv₂⟩:=R₂.vars
 obtain ⟨R₃,g₃,hnew⟩:=R₂.enter (vs₀:=vs0 vs) N (fun x cc e => ⟨by
   rcases List.mem_append.mp (hcin x cc (hcl x cc e)) with q | q
   ·exact List.mem_append_left _ q
   ·exact List.mem_append_right _ (List.mem_cons_of_mem _ (List.mem_cons_of_mem _ q)),hc₂ x cc (hcl x cc e)⟩)
  (fun x y cc e e' => R.ok.cinj x y cc (hcl x cc e) (hcl y cc e')) (fun i x kk av e1 e2 => by
   obtain ⟨k₀,e3,hk₀⟩:=relabel_get e1
   obtain ⟨hfree,hcs,j,kk',e4,hkk,e5⟩:=hv0 vs i x k₀ av e3 e2
   subst hfree
   refine ⟨hk₀.elim (fun q => .inl q) fun q => .inr q.2,List.mem_of_getElem? e3,?_⟩
   obtain ⟨v,sl,vv⟩:=hv₂ j x kk' av e4 e5
   cases ecc:cl.lookup x with
   | none => (first | exact noO ecc hcs | exact noI ecc hcs | (rw [ecc] at hcs; cases hcs))
   | some cc =>
    have:∃ cc',c.env.cells.lookup x = some cc' ∧ (h₁.push (lstO [] 0)).IsCell cc' (some v):=by
     rcases hkk with rfl | rfl <;> exact sl
    obtain ⟨cc',q1,q2⟩:=this
    rw [hcl x cc ecc] at q1
    cases q1
    exact ⟨cc,v,rfl,q2,vv⟩)
 generalize hH:pushCells ((h₁.push (lstO [] 0)).push { cls:=.type "dict",data:=.dict #[] }) scope.names = h₃ at R₃ g₃
 have hH':pushCells ((h₁.push { cls:=.type "list",data:=.seq ([]:List Value).toArray }).push { cls:=.type "dict",data:=.dict #[] }) scope.names = h₃:=hH
 obtain ⟨hTg,hIf,hE⟩:=hT L
 have g₁₃:∀ b o,h₁.get? b = some o → h₃.get? b = some o:=fun b o e => g₃ b o (gD b o e)
 have hI₁:(h₁.get? I).isSome = true:=(R₁.base.dis I (mem_av_hid (List.mem_cons_self ..))).2.1
 have hDI:D ≠ I:=fun q => by rw [q] at hDn; (first | exact noO hDn hI₁ | exact noI hDn hI₁ | (rw [hDn] at hI₁; cases hI₁))
 have ndh:(c.own ++ D :: I :: hid ++ live as₁).Nodup:=R₂.nodup
 have cellsOk:∀ x cc,(compCx c scope cl L).env.cells.lookup x = some cc → cc ≠ I ∧ cc ≠ D ∧ cc ∈ (compCx c scope cl L).own ++ (c.own ++ hid):=fun x cc e => by
  have e:(cellsFrom (L + 1) scope.names cl).lookup x = some cc:=e
  rw [cellsFrom_app] at e
  rcases lookup_append e with q | ⟨_,q⟩
  ·have hm:cc ∈ (compCx c scope cl L).own:=List.mem_cons_of_mem _ (List.mem_map.mpr ⟨_,mem_of_lookup q,rfl⟩)
   have hn:=hnew cc hm
   have n1:cc ≠ I:=fun z => by
    have w:=isSome_of (gD I) hI₁
    rw [← z,hn] at w; cases w
   have n2:cc ≠ D:=fun z => by rw [z,hDin] at hn; cases hn
   exact ⟨n1,n2,List.mem_append_left _ hm⟩
  ·have hm:=hcin x cc (hcl x cc q)
   have hi:(s.heap.get? cc).isSome = true:=(R.base.dis cc (mem_av_oh hm)).2.1
   have h1:=kp.2 cc hi
   exact ⟨fun z => (by rw [z,hI] at hi; cases hi),fun z => (by rw [z,hDn] at h1; cases h1),List.mem_append_right _ hm⟩
 generalize hC:compCx c scope cl L = C' at *
 have hdC:C'.d = c.d:=by rw [← hC]; rfl
 have hiC:C'.isclo = c.isclo:=by rw [← hC]; rfl
 have heC:C'.env = { scope:=relabel scope c.env,locals:=L,globals:=c.env.globals,cells:=cellsFrom (L + 1) scope.names cl,qual:=c.env.qual,func:=none,code:=c.env.code,frame:=c.env.frame,builtins:=c.env.builtins }:=by rw [← hC]; rfl
 have hA':OkA C'.d A:=by rw [hdC]; exact hA
 have own₁:∀ a ∈ C'.own,h₁.get? a = Option.none:=fun a ha => none_of gD (hnew a ha)
 have hDm:D ∈ C'.av (c.own ++ D :: I :: hid) as₁:=mem_av_hid (List.mem_append_right _ (List.mem_cons_self ..))
 have hDt:D ∉ W.tP:=(R₃.base.dis D hDm).2.2
 have hDo:D ∉ C'.own:=fun q => by have:=hnew D q; (first | exact noO hDin this | exact noI hDin this | (rw [hDin] at this; cases this))
 have hIt:I ∉ W.tP:=(R₁.base.dis I (mem_av_hid (List.mem_cons_self ..))).2.2
 have hIo:I ∉ C'.own:=fun q => by have:=own₁ I q; (first | exact noO this hI₁ | exact noI this hI₁ | (rw [this] at hI₁; cases hI₁))
 have memD:D ∈ c.own ++ D :: I :: hid:=List.mem_append_right _ (List.mem_cons_self ..)
 have memI:I ∈ c.own ++ D :: I :: hid:=List.mem_append_right _ (List.mem_cons_of_mem _ (List.mem_cons_self ..))
 have nl:∀ {vs':VS} {ob':OB} {as':AS} {h:Heap},Rel W C' (c.own ++ D :: I :: hid) vs' ob' as' h → ∀ a ∈ c.own ++ D :: I :: hid,a ∉ C'.own ++ live as':=fun R' a ha hm => by
  rcases List.mem_append.mp hm with q | q
  ·exact own_not_hid R'.nodup q ha
  ·exact oh_not_live R'.nodup (List.mem_append_right _ ha) q
 have keep:∀ {vs':VS} {ob':OB} {as' as'':AS} {h h':Heap} {acc us} {l:List Addr},Rel W C' (c.own ++ D :: I :: hid) vs' ob' as' h → Kp W l h h' → (∀ a ∈ l,a ∈ C'.own ++ live as') → Ex h as' as'' → h.PlainList D (us:List Value).toArray →
   TVs (Gh W h (C'.av (c.own ++ D :: I :: hid) as')) acc us → h'.PlainList D us.toArray ∧ TVs (Gh W h' (C'.av (c.own ++ D :: I :: hid) as'')) acc us:=fun R' k hl ex hp t => by
  refine ⟨hp.at fun o e => k.1 D o (fun q => nl R' D memD (hl D q)) hDt e,t.kp k (fun a ha => .inl ?_) ex.av⟩
  rcases List.mem_append.mp (hl a ha) with q | q
  ·exact mem_av_own q
  ·exact mem_av_live q
 have stK:∀ {j:Nat} {vs':VS} {ob':OB} {as':AS} {h h':Heap} {l:List Addr},Rel W C' (c.own ++ D :: I :: hid) vs' ob' as' h → (∀ b,(h₁.get? b).isSome = true → (h.get? b).isSome = true) → Ex h₃ as₁ as' → Kp W l h h' → (∀ a ∈ l,a ∈ C'.own ++ live as') → St j h → St j h':=fun {j vs' ob' as' h h' l} R' hsome ex k hl st => by
  refine Wk.frame _ _ _ st fun b hb o e => ?_
  by_cases q:b = I
  ·exact k.1 b o (fun z => nl R' I memI (q ▸ hl b z)) (q ▸ hIt) e
  ·obtain ⟨f1,f2,f3⟩:=hfp b hb q
   refine k.1 b o (fun z => ?_) f2 e
   rcases List.mem_append.mp (hl b z) with y | y
   ·rw [own₁ b y] at f3; cases f3
   ·rcases ex.live b y with x | x
    ·exact f1 (mem_av_live x)
    ·rw [none_of g₁₃ x] at f3; cases f3
 have hcI:∀ x cc,C'.env.cells.lookup x = some cc → cc ≠ I:=fun x cc e => (cellsOk x cc e).1
 have hcD:∀ x cc,C'.env.cells.lookup x = some cc → cc ≠ D:=fun x cc e => (cellsOk x cc e).2.1
 have chain:∀ {as':AS} {h h':Heap} {l:List Addr},Kp W (C'.own ++ D :: I :: live as₁) h₃ h → Ex h₃ as₁ as' → Kp W l h h' → (∀ a ∈ l,a ∈ C'.own ++ D :: I :: live as') → Kp W (C'.own ++ D :: I :: live as₁) h₃ h':=fun k ex k' hl => by
  refine Kp.trans k k' fun a ha => ?_
  rcases List.mem_append.mp (hl a ha) with q | q
  ·exact .inl (List.mem_append_left _ q)
  ·rcases List.mem_cons.mp q with q | q
   ·exact .inl (List.mem_append_right _ (q ▸ List.mem_cons_self ..))
   ·rcases List.mem_cons.mp q with q | q
    ·exact .inl (List.mem_append_right _ (List.mem_cons_of_mem _ (q ▸ List.mem_cons_self ..)))
    ·exact (ex.live a q).imp (fun z => List.mem_append_right _ (List.mem_cons_of_mem _ (List.mem_cons_of_mem _ z))) id
 have sub₂:∀ {as':AS},∀ a ∈ C'.own ++ live as',a ∈ C'.own ++ D :: I :: live as':=fun a ha => (List.mem_append.mp ha).elim (List.mem_append_left _) fun q => List.mem_append_right _ (List.mem_cons_of_mem _ (List.mem_cons_of_mem _ q))
 have some₃:∀ {h:Heap} {l:List Addr},Kp W l h₃ h → ∀ b,(h₁.get? b).isSome = true → (h.get? b).isSome = true:=fun k b e => k.2 b (isSome_of (g₁₃ b) e)
 have nod:∀ {vs':VS} {ob':OB} {as':AS} {h:Heap},Rel W C' (c.own ++ D :: I :: hid) vs' ob' as' h → D ∉ C'.av (c.own ++ hid) as' ∧ I ∉ C'.av (c.own ++ hid) as':=fun {vs' ob' as' h} R' => by
  have nd:=R'.nodup
  unfold Cx.av at nd ⊢
  have perm:(C'.own ++ (c.own ++ D :: I :: hid) ++ live as').Perm (D :: I :: (C'.own ++ (c.own ++ hid) ++ live as')):=by
   have p1:(c.own ++ D :: I :: hid).Perm (D :: I :: (c.own ++ hid)):=(List.perm_middle).trans ((List.perm_middle).cons D)
   have p2:(C'.own ++ (c.own ++ D :: I :: hid)).Perm (D :: I :: (C'.own ++ (c.own ++ hid))):=(p1.append_left C'.own).trans ((List.perm_middle).trans ((List.perm_middle).cons D))
   exact p2.append_right (live as')
  have nd':=perm.nodup_iff.mp nd
  have h1:=List.nodup_cons.mp nd'
  have h2:=List.nodup_cons.mp h1.2
  exact ⟨fun q => h1.1 (List.mem_cons_of_mem _ q),h2.1⟩
 have out:∀ (h h₄:Heap) (tk:Nat) (vs':VS) (ob':OB) (as':AS) (xs:List AV) (us:List Value),k xs ob' → Rel W C' (c.own ++ D :: I :: hid) vs' ob' as' h → Kp W (C'.own ++ D :: I :: live as₁) h₃ h → Ex h₃ as₁ as' → h.PlainList D us.toArray →
   TVs (Gh W h (C'.av (c.own ++ D :: I :: hid) as')) xs us → (∀ b o,b ≠ I → h.get? b = some o → h₄.get? b = some o) → RR (.ref D) L (.ok .next) { s with heap:=h₄,toks:=tk }:=fun h h₄ tk vs' ob' as' xs us hk R' kw ex' hp t g₄ => by
  have hsub:(c.own ++ hid).Sublist (c.own ++ D :: I :: hid):=List.Sublist.append (List.Sublist.refl _) ((List.sublist_cons_self I hid).trans (List.sublist_cons_self D _))
  obtain ⟨hnD,hnI⟩:=nod R'
  obtain ⟨R₉,up⟩:=R'.sub (h':=h₄) (Dl:=[I]) hsub (fun x cc e => (cellsOk x cc e).2.2) (fun a ha => by rw [List.mem_singleton.mp ha]; exact memI) (fun a ha => by rw [List.mem_singleton.mp ha]; exact hnI) fun b o hb => g₄ b o fun q => hb (List.mem_singleton.mpr q)
  obtain ⟨n,hp⟩:=hp
  have kpF:Kp W (live as) s.heap h:=by
   refine Kp.trans (Kp.trans kp (Kp.grow g₁₃ []) fun _ ha => nomatch ha) kw fun a ha => ?_
   rcases List.mem_append.mp ha with q | q
   ·exact .inr (new_none kp a (own₁ a q))
   ·rcases List.mem_cons.mp q with q | q
    ·exact .inr (by rw [q]; rw [← hDe]; exact new_none kp _ (size_none _))
    ·rcases List.mem_cons.mp q with q | q
     ·exact .inr (q ▸ hI)
     ·exact ex.live a q
  have nI:∀ b,(s.heap.get? b).isSome = true → b ≠ I:=fun b e q => by rw [q,hI] at e; cases e
  have kpF':Kp W (live as) s.heap h₄:=⟨fun b o h1 h2 e => g₄ b o (nI b (by rw [e]; rfl)) (kpF.1 b o h1 h2 e),fun b e => isSome_of (g₄ b · (nI b e)) (kpF.2 b e)⟩
  have exF:Ex s.heap as as':=ex.trans (Kp.trans kp (Kp.grow g₁₃ []) fun _ ha => nomatch ha) ex'
  refine hRR D L h₄ tk vs' ob' as' xs hk (by rw [hC]; exact R₉) ?_ kpF' (fun a ha => new_none kp a (own₁ a (by rw [hC] at ha; exact ha))) exF
  rw [hC]
  exact .lst (n:=n) ⟨g₄ D _ hDI hp,hnD,hDt⟩ (t.mono up)
 have loop:codeAny (model W.prog W.w) A (.compLoop (.ListComp elt [⟨target,iter,ifs,0⟩] scope pos) 0 (.ref I) (.ref D) C'.env) (RR (.ref D) L) { s with heap:=h₃,toks:=t₁ }:=by
  refine compRun (H:=c.own ++ D :: I :: hid) (fun h as' => Kp W (C'.own ++ D :: I :: live as₁) h₃ h ∧ Ex h₃ as₁ as') hTg hIf hE htn hA' Wk hsz hgo ?_ ?_ ?_ ?_ R₃ ⟨.refl,.refl⟩ (Wk.frame _ _ _ st fun b _ o e => g₁₃ b o e) hk ⟨0,g₃ _ _ hDin⟩
  ·intro vs' ob' as' as'' h h' l R' x k' hl ex₂
   exact ⟨⟨chain x.1 x.2 k' fun a ha => sub₂ a (hl a ha),x.2.trans x.1 ex₂⟩,fun j st' => stK R' (some₃ x.1) x.2 k' hl st',fun hp t => keep R' k' hl ex₂ hp t⟩
  ·intro vs' ob' as' h h₄ j v hlt hP R' x hk₄ st₄
   have g₄:∀ b o,b ≠ I → h.get? b = some o → h₄.get? b = some o:=fun b o hb e => hk₄ b o (fun hm => hb (List.mem_singleton.mp hm)) e
   obtain ⟨R₄,up₄⟩:=R'.hidAny memI hcI g₄ (hsI _ _ st₄)
   have kw₄:=chain x.1 x.2 (kpBut (List.mem_singleton_self I) g₄ (hsI _ _ st₄)) fun a ha => List.mem_append_right _ (List.mem_cons_of_mem _ (by rw [List.mem_singleton.mp ha]; exact List.mem_cons_self ..))
   refine ⟨R₄,⟨kw₄,x.2⟩,?_,fun hp t => ⟨hp.at fun o e => g₄ D o hDI e,t.mono up₄⟩⟩
   have hv₁:TV (Gh W h₁ (c.av (I :: hid) as₁)) items[j] v:=hitems j _ v (List.getElem?_eq_getElem hlt) hP h₁ as₁ .refl .refl
   refine hv₁.kp (Kp.trans (Kp.grow g₁₃ (C'.own ++ D :: I :: live as₁)) kw₄ fun a ha => .inl ha) (fun a ha => ?_) fun a ha => ?_
   ·rcases List.mem_append.mp ha with q | q
    ·exact .inr (own₁ a q)
    ·rcases List.mem_cons.mp q with q | q
     ·exact .inr (by rw [q]; rw [← hDe]; exact size_none _)
     ·rcases List.mem_cons.mp q with q | q
      ·exact .inl (mem_av_hid (q ▸ List.mem_cons_self ..))
      ·exact .inl (mem_av_live q)
   ·rcases List.mem_append.mp ha with q | q
    ·rcases List.mem_append.mp q with q | q
     ·exact .inr (own₁ a q)
     ·rcases List.mem_append.mp q with q | q
      ·exact .inl (mem_av_own q)
      ·rcases List.mem_cons.mp q with q | q
       ·exact .inr (by rw [q]; rw [← hDe]; exact size_none _)
       ·exact .inl (mem_av_hid q)
    ·rcases x.2.live a q with z | z
     ·exact .inl (mem_av_live z)
     ·exact .inr (none_of g₁₃ z)
  ·intro vs' ob' as' h h₈ R' x g₈ inD
   obtain ⟨R₈,up₈⟩:=R'.hidAny memD hcD g₈ inD
   refine ⟨R₈,⟨chain x.1 x.2 (kpBut (List.mem_singleton_self D) g₈ inD) fun a ha => List.mem_append_right _ (by rw [List.mem_singleton.mp ha]; exact List.mem_cons_self ..),x.2⟩,fun j st' => Wk.frame _ _ _ st' fun b hb o e => ?_,up₈⟩
   refine g₈ b o (fun q => ?_) e
   by_cases z:b = I
   ·exact hDI (q.symm.trans z)
   ·have f3:=(hfp b hb z).2.2
    rw [q,← hDe,size_none] at f3; cases f3
  ·intro h h₄ tk vs' ob' as' xs us hk' R' x hp ta hk₄
   exact out h h₄ tk vs' ob' as' xs us hk' R' x.1 x.2 hp ta fun b o hb e => hk₄ b o (fun hm => hb (List.mem_singleton.mp hm)) e
 subst hDe
 subst hL
 subst hH
 have st₃:St 0 _:=Wk.frame _ _ _ st fun b _ o e => g₁₃ b o e
 rw [heC] at loop
 exact codeAny_compStart_list loop (Wk.self 0 _ _ _ st₃ loop)
end
section
variable {W:Wd} {c:Cx} {hid:List Addr}
theorem Rel.leave2 {vs vs':VS} {ob ob':OB} {as as':AS} {h h':Heap} {c':Cx} (R:Rel W c hid vs ob as h) (R':Rel W c' (c.own ++ hid) vs' ob' as' h') (k:Kp W (live as) h h') (ex:Ex h as as') (hn:∀ a ∈ c'.own,h.get? a = Option.none) :
  Rel W c (c'.own ++ hid) vs ob' as' h' ∧ (∀ a o,Gh W h' (c'.av (c.own ++ hid) as') a o → Gh W h' (c.av (c'.own ++ hid) as') a o):=by
 have perm:(c.av (c'.own ++ hid) as').Perm (c'.av (c.own ++ hid) as'):=by
  unfold Cx.av
  rw [← List.append_assoc c.own,← List.append_assoc c'.own]
  exact ((List.perm_append_comm (l₁:=c.own) (l₂:=c'.own)).append_right hid).append_right (live as')
 have sub:∀ a ∈ c.av (c'.own ++ hid) as',a ∈ c'.av (c.own ++ hid) as':=fun a ha => perm.mem_iff.mp ha
 have up:∀ a o,Gh W h' (c'.av (c.own ++ hid) as') a o → Gh W h' (c.av (c'.own ++ hid) as') a o:=fun a o ⟨e,h1,h2⟩ => ⟨e,fun q => h1 (sub a q),h2⟩
 refine ⟨⟨⟨R.ok.kind,R.ok.glob,R.ok.blt,R.ok.loc,fun x cc e => ?_,R.ok.cinj,R.ok.names⟩,R'.base.less sub,perm.nodup_iff.mpr R'.nodup,?_,R'.objs.1,fun i o e => ?_⟩,up⟩
 ·rcases List.mem_append.mp (R.ok.cells x cc e) with q | q
  ·exact List.mem_append_left _ q
  ·exact List.mem_append_right _ (List.mem_append_right _ q)
 ·obtain ⟨hc,m,hm,_⟩:=R.varsStep k ex
  obtain ⟨_,m₀,hm₀,hv₀⟩:=R.vars
  have own:∀ a o,a ∈ c.own ++ hid → h.get? a = some o → h'.get? a = some o:=fun a o ha e => k.1 a o (oh_not_live R.nodup ha) ((R.base.dis a (mem_av_oh ha)).2.2) e
  have hm₁:h'.Ns c.env.locals m₀:=by
   obtain ⟨o,es,ep,e,r⟩:=hm₀
   exact ⟨o,es,ep,own _ _ (List.mem_append_left _ R.ok.loc) e,r⟩
  refine ⟨hc,m₀,hm₁,fun i x kk av e1 e2 => ?_⟩
  obtain ⟨v,q1,q2⟩:=hv₀ i x kk av e1 e2
  refine ⟨v,?_,q2.kp k (fun a ha => .inl (mem_av_live ha)) ex fun a ha => ?_⟩
  ·unfold SlotIs at q1 ⊢
   cases kk <;> first | exact q1 | (obtain ⟨cc,e,ic⟩:=q1; exact ⟨cc,e,isCell_kp ic fun o e' => own _ _ (R.ok.cells _ _ e) e'⟩)
  ·rcases List.mem_append.mp ha with q | q
   ·exact .inl (mem_av_own q)
   ·rcases List.mem_append.mp q with q | q
    ·exact .inr (hn a q)
    ·exact .inl (mem_av_hid q)
 ·obtain ⟨p,ep,r⟩:=R'.objs.2 i o e
  exact ⟨p,ep,r.mono up fun _ _ _ _ e => e⟩
theorem kp_after {h h' h'':Heap} {as:AS} {L:Addr} (k:Kp W (live as) h h') (hL:h.get? L = Option.none) (hs:Heap.SameBut L h' h''):Kp W (live as) h h'' :=
 ⟨fun b o h1 h2 e => (hs.2 b fun q => by rw [q,hL] at e; cases e).trans (k.1 b o h1 h2 e),fun b e => by
  have ne:b ≠ L:=fun q => by rw [q,hL] at e; cases e
  rw [hs.2 b ne]; exact k.2 b e⟩
structure CompOk (W:Wd) (c:Cx) (elt target iter:Expr) (ifs:List Expr) (scope:Scope) (cl:List (Str × Addr)) (Ti:TI) (Ta:TT) (Tc:TB) (Te:TE) (vs0:VS → VS):Prop where
 hit:It W c iter Ti
 hs:∀ x,foldedSetIterable iter c.env x = pure x
 hclos:closureFor scope c.env = pure cl
 hkind:scope.kind = .function
 hnames:∀ x ∈ scope.names,x.2 = .local → scope.names.lookup x.1 = some .local
 hnd:(scope.names.map (·.1)).Nodup
 hcl:∀ x cc,cl.lookup x = some cc → c.env.cells.lookup x = some cc
 hv0:∀ vs i x k av,scope.names[i]? = some (x,k) → getV (vs0 vs) i = some av → k = .free ∧ (cl.lookup x).isSome = true ∧ ∃ j kk,c.env.scope.names[j]? = some (x,kk) ∧ (kk = .cell ∨ kk = .free) ∧ getV vs j = some av
 hT:∀ L,Tg W (compCx c scope cl L) target Ta ∧ Ifs W (compCx c scope cl L) ifs Tc ∧ E W (compCx c scope cl L) elt Te
 htn:(∃ x p,target = .Name x p) ∨ ∃ es k p,target = .Tuple es k p
theorem E.comp {elt target iter:Expr} {ifs:List Expr} {scope:Scope} {pos:Pos} {cl:List (Str × Addr)} {Ti:TI} {Ta:TT} {Tc:TB} {Te:TE} {vs0:VS → VS} (H:CompOk W c elt target iter ifs scope cl Ti Ta Tc Te vs0) :
  E W c (.ListComp elt [⟨target,iter,ifs,0⟩] scope pos) (fun vs ob k => Ti vs ob fun items ob₁ => compT Ta Tc Te items [] (vs0 vs) ob₁ fun xs ob₂ => k (.lst xs) ob₂):=by
 intro A hid vs ob k s as Q hA ht R hQ
 rw [eval_ListComp]
 refine wpAny_comprehension_free (use:=Option.none) rfl H.hs H.hclos H.hkind H.hnames ?_
 refine compCore (RR:=fun acc C => compPost (model W.prog W.w) A (fun _ _ => False) Option.none Q acc C) vs0 H.hit H.hkind H.hnd H.hcl H.hv0 H.hT H.htn hA ht R fun D L h tk vs' ob' as' xs hk R' t kp hn ex => ?_
 obtain ⟨_,m,hm,_⟩:=R'.vars
 have hLo:L ∈ (compCx c scope cl L).own:=List.mem_cons_self ..
 refine ⟨m,hm,fun h'' hs => ?_⟩
 have g:∀ b o,b ∉ (compCx c scope cl L).own → h.get? b = some o → h''.get? b = some o:=fun b o hb e => (hs.2 b fun q => hb (q ▸ hLo)).trans e
 have k₂:=kp_after kp (hn L hLo) hs
 obtain ⟨R₂,up⟩:=R.leave R' k₂ ex g
 exact hQ _ h'' tk (.lst xs) ob' as' hk R₂ (VV.of (t.mono up)) k₂ ex
theorem S.compUsed {elt target iter:Expr} {ifs:List Expr} {scope:Scope} {y:Str} {py pos spos:Pos} {cl:List (Str × Addr)} {Ti:TI} {Ta:TT} {Tc:TB} {Te:TE} {vs0:VS → VS} {i:Nat} (H:CompOk W c elt target iter ifs scope cl Ti Ta Tc Te vs0) (hy:St W c y i)
  (hsw:swapsWith (.ListComp elt [⟨target,iter,ifs,0⟩] scope pos) (some (.Name y py)) spos.line c.env = pure true) :
  S W c (.Assign [.Name y py] (.ListComp elt [⟨target,iter,ifs,0⟩] scope pos) spos) (fun vs ob k => Ti vs ob fun items ob₁ => compT Ta Tc Te items [] (vs0 vs) ob₁ fun xs ob₂ => k .next (setV vs i (.lst xs)) ob₂):=by
 intro A hid vs ob k s as Q hA ht R hQ
 rw [exec_Assign_Name_used _ _ _ _ hsw]
 refine wpAny_bind (wpAny_standAt (wpAny_bind ?_))
 show wpAny _ A (do let _ ← comprehension (.ListComp elt [⟨target,iter,ifs,0⟩] scope pos) scope c.env _ (newList []) false (eval iter c.env) (some (PySem.assign (.Name y py) c.env))) _ _ s
 refine wpAny_bind (wpAny_mono (wpAny_comprehension_free (use:=some (PySem.assign (.Name y py) c.env)) (Q:=fun _ s' => Q .next s') (E:=fun _ _ => False) rfl H.hs H.hclos H.hkind H.hnames ?_) (fun _ s' hq => wpAny_pure (wpAny_pure hq)) fun _ _ e => e)
 refine compCore (RR:=fun acc C => compPost (model W.prog W.w) A (fun _ _ => False) (some (PySem.assign (.Name y py) c.env)) (fun _ s' => Q .next s') acc C) vs0 H.hit H.hkind H.hnd H.hcl H.hv0 H.hT H.htn hA ht R fun D L h tk vs' ob' as' xs hk R' t kp hn ex => ?_
 have hLo:L ∈ (compCx c scope cl L).own:=List.mem_cons_self ..
 obtain ⟨_,m,hm,_⟩:=R'.vars
 obtain ⟨R₂,up⟩:=R.leave2 R' kp ex hn
 refine wpAny_assign_Name (hy A _ vs ob' { s with heap:=h,toks:=tk } as' _ (.lst xs) (.ref D) R₂ (VV.of (t.mono up)) fun h₂ t₂ R₃ kp₃ keep₃ => ?_)
 have oldown:∀ a ∈ c.own,(s.heap.get? a).isSome = true:=fun a ha => (R.base.dis a (mem_av_own ha)).2.1
 have hLc:L ∉ c.own:=fun q => by have:=oldown L q; rw [hn L hLo] at this; cases this
 have hm₂:h₂.Ns L m:=by
  obtain ⟨o,es,ep,e,r⟩:=hm
  exact ⟨o,es,ep,keep₃ _ _ hLc e,r⟩
 refine ⟨m,hm₂,fun h'' hs => ?_⟩
 have dis:∀ a ∈ (compCx c scope cl L).own,a ∉ c.av hid as':=fun a ha hm => by
  have nd:=R₃.nodup
  unfold Cx.av at nd hm
  have perm:(c.own ++ ((compCx c scope cl L).own ++ hid) ++ live as').Perm ((compCx c scope cl L).own ++ (c.own ++ hid ++ live as')):=by
   rw [← List.append_assoc c.own,List.append_assoc _ hid,List.append_assoc c.own hid,← List.append_assoc (compCx c scope cl L).own c.own]
   exact (List.perm_append_comm (l₁:=c.own)).append_right _
  exact (List.nodup_append.mp (perm.nodup_iff.mp nd)).2.2 a ha a hm rfl
 obtain ⟨R₄,up₄⟩:=R₃.sub (h':=h'') (Dl:=(compCx c scope cl L).own) (List.sublist_append_right _ _) R.ok.cells (fun a ha => List.mem_append_left _ ha) dis fun b o hb e => (hs.2 b fun q => hb (q ▸ hLo)).trans e
 have kw:Kw W c as s.heap h₂:=kp.kw.trans (kp₃.more fun a ha => .inl (List.mem_append_left _ ha)) ex
 have kw':Kw W c as s.heap h'':=⟨fun b o h1 h2 e => (hs.2 b fun q => by rw [q,hn L hLo] at e; cases e).trans (kw.1 b o h1 h2 e),fun b e => by
  have ne:b ≠ L:=fun q => by rw [q,hn L hLo] at e; cases e
  rw [hs.2 b ne]; exact kw.2 b e⟩
 exact hQ .next h'' t₂ .next _ _ as' hk R₄ rfl kw' ex
end
section
set_option backward.match.sparseCases false
variable {W:Wd} {c:Cx} {hid:List Addr}
noncomputable def funCx (fd:FuncData) (a L d:Nat) (C:CP):Cx :=
 { env:={ scope:=fd.scope,locals:=L,globals:=fd.globals,cells:=cellsFrom (L + 1) fd.scope.names fd.closure,qual:=fd.qualname ++ ".<locals>.",func:=some a,code:=fd.code,frame:=some L,builtins:=fd.builtins },own:=L :: (cellsFrom (L + 1) fd.scope.names []).map (·.2),d:=d,isclo:=C }
inductive Binds (W:Wd) (c:Cx):List Str → List Nat → Prop where
 | nil:Binds W c [] []
 | cons {x i xs is}:St W c x i → Binds W c xs is → Binds W c (x :: xs) (i :: is)
noncomputable def setVs (vs:VS):List Nat → List AV → VS
 | i :: is,a :: as => setVs (setV vs i a) is as
 | _,_ => vs
theorem okA_deeper {d:Nat} {A:Around} {env:Env} (h:OkA (d + 1) A):OkA d (A.deeper env):=by
 obtain ⟨h1,h2,h3⟩:=h
 refine ⟨h1,?_,?_⟩
 ·show A.depth + 1 + d < recursionLimit
  lia
 ·show A.units + _ + 8 * (d + 20) < cLine
  lia
theorem storeBinds {A:Around} (f:Str × Value → PUnit → Sem (ForInStep PUnit)) (hf:∀ n v u,f (n,v) u = (do storeName c.env n v; pure (.yield ⟨⟩))) {ob:OB} {as:AS}
  {params:List Str} {is:List Nat} (B:Binds W c params is):∀ {us:List Value} {avs:List AV} {vs:VS} {s:Shared} {Q:PUnit → Shared → Prop},Rel W c hid vs ob as s.heap → VVs c.isclo (Gh W s.heap (c.av hid as)) as avs us → us.length = params.length →
   (∀ (h':Heap) (tk:Nat),Rel W c hid (setVs vs is avs) ob as h' → Kp W c.own s.heap h' → (∀ b o,b ∉ c.own → s.heap.get? b = some o → h'.get? b = some o) → Q ⟨⟩ { s with heap:=h',toks:=tk }) →
   wpAny (model W.prog W.w) A (forIn (params.zip us) ⟨⟩ f) Q (fun _ _ => False) s:=by
 induction B with
 | nil =>
  intro us avs vs s Q R hv hl hQ
  rw [List.zip_nil_left,List.forIn_nil]
  have e:setVs vs [] avs = vs:=by cases avs <;> rfl
  exact wpAny_pure (hQ s.heap s.toks (e ▸ R) .refl fun _ _ _ e => e)
 | @cons x i xs is hx hb ih =>
  intro us avs vs s Q R hv hl hQ
  cases hv with
  | nil => cases hl
  | @cons a u as' us' t ts =>
   rw [List.zip_cons_cons,List.forIn_cons,hf]
   refine wpAny_bind (wpAny_bind (hx A hid vs ob s as _ a u R t fun h₁ t₁ R₁ k₁ g₁ => wpAny_pure ?_))
   exact ih (s:={ s with heap:=h₁,toks:=t₁ }) R₁ (VVs.step k₁ (fun a ha => mem_av_own ha) .refl ts) (Nat.succ.inj hl) fun h₂ t₂ R₂ k₂ g₂ =>
    hQ h₂ t₂ R₂ (k₁.trans k₂ fun a ha => .inl ha) fun b o hb e => g₂ b o hb (g₁ b o hb e)
theorem Rel.hideAll {vs:VS} {ob:OB} {as:AS} {h:Heap} (R:Rel W c hid vs ob as h):Rel W c (hid ++ live as) [] [] [] h:=by
 have e:c.av (hid ++ live as) [] = c.av hid as:=by
  unfold Cx.av
  show c.own ++ (hid ++ live as) ++ [] = c.own ++ hid ++ live as
  rw [List.append_nil,List.append_assoc]
 refine ⟨⟨R.ok.kind,R.ok.glob,R.ok.blt,R.ok.loc,fun x cc e => ?_,R.ok.cinj,R.ok.names⟩,by rw [e]; exact R.base,by rw [e]; exact R.nodup,?_,rfl,fun i o e => by simp at e⟩
 ·rcases List.mem_append.mp (R.ok.cells x cc e) with q | q
  ·exact List.mem_append_left _ q
  ·exact List.mem_append_right _ (List.mem_append_left _ q)
 ·obtain ⟨hc,m,hm,_⟩:=R.vars
  exact ⟨hc,m,hm,fun i x k av _ e => by unfold getV at e; simp at e⟩
theorem Rel.kept {vs vs':VS} {ob ob':OB} {as as':AS} {h h':Heap} {c':Cx} (R:Rel W c hid vs ob as h) (R':Rel W c' (c.own ++ (hid ++ live as)) vs' ob' as' h') (k:Kp W [] h h') :
  Rel W c hid vs ob as h' ∧ (∀ a o,Gh W h' (c'.av (c.own ++ (hid ++ live as)) as') a o → Gh W h' (c.av hid as) a o):=by
 have sub:∀ a ∈ c.av hid as,a ∈ c'.av (c.own ++ (hid ++ live as)) as':=fun a ha => mem_av_hid (by rw [← List.append_assoc]; exact ha)
 refine ⟨⟨R.ok,R'.base.less sub,R.nodup,R.varsStep (k.more fun _ ha => nomatch ha) .refl,R.objs.1,?_⟩,fun a o ⟨e,h1,h2⟩ => ⟨e,fun q => h1 (sub a q),h2⟩⟩
 exact R.objs.kp k (fun _ ha => nomatch ha) (fun _ _ ha => nomatch ha) (fun a ha => (R.base.dis a (mem_av_live ha)).2.2) .refl (fun _ _ e => e) fun _ ha => .inl (mem_av_oh ha)
structure FunOk (W:Wd) (a:Addr) (fd:FuncData) (body:List Stmt) (params:List Str):Prop where
 ex:∃ o,W.h₀.get? a = some o ∧ o.data = .func fd
 hco:fd.scope.isCoroutine = false
 hgen:fd.scope.isGenerator = false
 hk:fd.scope.kind = .function
 hbody:fd.body = .stmts body
 hcd:W.h₀.CodeRec fd.code fd.qualname
 hg:fd.globals = mainGlobals
 hb:fd.builtins = builtinsNs
 hclo:fd.closure = []
 hnd:(fd.scope.names.map (·.1)).Nodup
end
section
variable {W:Wd} {c:Cx} {hid:List Addr}
noncomputable def retK (k:AV → Prop):AF → VS → OB → Prop
 | .ret av,_,ob => ∃ b ob',tr ob av = some (b,ob') ∧ k b
 | .next,_,_ => k .none
 | _,_,_ => False
theorem new_none' {h h':Heap} {b:Addr} (g:∀ b o,h.get? b = some o → h'.get? b = some o) (e:h'.get? b = Option.none):h.get? b = Option.none:=by
 cases q:h.get? b with
 | none => rfl
 | some o => rw [g b o q] at e; cases e
noncomputable def vs₀ (fd:FuncData):VS:=List.replicate fd.scope.names.length Option.none
theorem getV_vs₀ {fd:FuncData} {i:Nat} {av:AV} (h:getV (vs₀ fd) i = some av):False:=by
 unfold getV vs₀ at h
 rw [List.getElem?_replicate] at h
 split at h <;> cases h
noncomputable def BindsG (W:Wd) (c:Cx) (hid:List Addr) (as:AS) (s:Shared) (fd:FuncData) (args:Args) (params:List Str) (avs:List AV):Prop :=
 ∀ (M:Model) (A:Around) (E:Value → Shared → Prop) (Q:List (Str × Value) → Shared → Prop),
  (∀ (us:List Value) (h':Heap) (tk:Nat),us.length = params.length → (∀ b o,s.heap.get? b = some o → h'.get? b = some o) → VVs noC (Gh W h' (c.av hid as)) as avs us → Q (params.zip us) { s with heap:=h',toks:=tk }) →
  wpAny M A (bindArgs fd args) Q E s
theorem BindsG.of {as:AS} {s:Shared} {fd:FuncData} {args:Args} {params:List Str} {us:List Value} {avs:List AV} (h:BindsTo s fd args (params.zip us)) (hl:us.length = params.length) (hv:VVs noC (Gh W s.heap (c.av hid as)) as avs us):BindsG W c hid as s fd args params avs :=
 fun M A E Q hQ => h M A E Q (hQ us s.heap s.toks hl (fun _ _ e => e) hv)
theorem VV.noC {C:CP} {G:GP} {as:AS} {x v} (t:VV noC G as x v):VV C G as x v :=
 VV.imp t (fun _ _ b e => ⟨b,e⟩) (fun _ _ _ _ _ _ _ q => q.elim) fun _ _ e => e
theorem VVs.noC {C:CP} {G:GP} {as:AS} {xs vs} (t:VVs noC G as xs vs):VVs C G as xs vs:=t.imp fun _ _ _ a => a.noC
theorem funEnter {a:Addr} {fd:FuncData} {body:List Stmt} {params:List Str} {is:List Nat} {d:Nat} {C:Addr → CP} (F:FunOk W a fd body params) (hB:∀ L,Binds W (funCx fd a L d (C L)) params is)
  {A:Around} {vs:VS} {ob:OB} {as:AS} {s:Shared} {args:Args} {avs:List AV} {RR:Result → Shared → Prop} (hA:OkA (d + 1) A) (hbind:BindsG W c hid as s fd args params avs) (R:Rel W c hid vs ob as s.heap)
  (hQ:∀ (L:Addr) (h:Heap) (tk:Nat),Rel W (funCx fd a L d (C L)) (c.own ++ hid) (setVs (vs₀ fd) is avs) ob as h → (∀ b ∈ (funCx fd a L d (C L)).own,s.heap.get? b = Option.none) → (∀ b o,s.heap.get? b = some o → h.get? b = some o) →
   wpAny (model W.prog W.w) (A.deeper (funCx fd a L d (C L)).env) (execs body (funCx fd a L d (C L)).env) (fun f s' => RR (.ok (.ret (match f with | .ret v => v | _ => .none))) s') (fun _ _ => False) { s with heap:=h,toks:=tk }) :
  codeAny (model W.prog W.w) A (.call (.ref a) args) RR s:=by
 obtain ⟨o,ho,hd⟩:=F.ex
 refine codeAny_call_function (by have:=hA.2.1; lia) (R.base.sub _ _ ho) hd F.hco F.hgen F.hbody (F.hcd.keeps R.base.sub) (hbind _ _ _ _ fun us h₀ t₀ hl g₀ hv => ?_)
 replace R:=R.grow g₀
 simp only [newFunctionEnv,Option.isSome_none,Bool.false_eq_true,if_false]
 refine wpAny_bind (wpAny_alloc ?_)
 refine wpAny_bind (wpAny_layCells _ (fun name kind cells => by cases hkc:kind == NameKind.cell <;> simp [hkc]) _ _ _ _ ?_)
 rw [show ({ s with heap:=h₀.push { cls:=.type "frame",data:=.dict #[] },toks:=t₀ }:Shared).heap.objs.size = h₀.objs.size + 1 from Heap.size_push ..]
 have N:Enter (funCx fd a h₀.objs.size d (C h₀.objs.size)) h₀ fd.scope.names [] { cls:=.type "frame",data:=.dict #[] }:=by
  refine ⟨F.hk,F.hg,F.hb,rfl,?_,rfl,F.hnd,rfl,F.hnd⟩
  show cellsFrom (h₀.objs.size + 1) fd.scope.names fd.closure = _
  rw [F.hclo,List.append_nil]
 obtain ⟨R₁,g₁,hn⟩:=R.enter (vs₀:=vs₀ fd) N (fun x cc e => nomatch e) (fun x y cc e => nomatch e) fun i x k av _ e => (getV_vs₀ e).elim
 have hv₁:VVs noC (Gh W _ ((funCx fd a h₀.objs.size d (C h₀.objs.size)).av (c.own ++ hid) as)) as avs us:=VVs.kp (c:=c) (hid:=hid) (l:=[]) (Kp.grow g₁ []) (fun _ ha => nomatch ha) .refl (fun b hb => (List.mem_append.mp hb).elim (fun q => .inr (hn b q)) fun q => .inl (mem_av_oh q)) hv
 have hv₁:=VVs.noC (C:=C h₀.objs.size) hv₁
 refine wpAny_bind (wpAny_mono (storeBinds (c:=funCx fd a h₀.objs.size d (C h₀.objs.size)) (hid:=c.own ++ hid) (s:={ s with heap:=pushCells (h₀.push { cls:=.type "frame",data:=.dict #[] }) fd.scope.names,toks:=t₀ }) _ (fun _ _ _ => rfl) (hB h₀.objs.size) R₁ hv₁ hl fun h₂ t₂ R₂ k₂ keep₂ => ?_) (fun _ _ q => q) fun _ _ f => f.elim)
 have g₃:∀ b o,h₀.get? b = some o → h₂.get? b = some o:=fun b o e => keep₂ b o (fun q => by rw [hn b q] at e; cases e) (g₁ b o e)
 have g₂:∀ b o,s.heap.get? b = some o → h₂.get? b = some o:=fun b o e => g₃ b o (g₀ b o e)
 refine wpAny_pure ⟨W.lim.keeps fun b o e => g₃ b o (R.base.sub b o e),codeAny_func (wpAny_mono (hQ _ h₂ t₂ R₂ (fun b hb => new_none' g₀ (hn b hb)) g₂) (fun _ _ q => q) fun _ _ f => f.elim)⟩
theorem Fn.iso {a:Addr} {fd:FuncData} {body:List Stmt} {params:List Str} {is:List Nat} {d:Nat} {C:Addr → CP} {T:TS} (F:FunOk W a fd body params) (hB:∀ L,Binds W (funCx fd a L d (C L)) params is)
  (hbind:∀ (s:Shared) (us:List Value),(∀ b o,W.h₀.get? b = some o → s.heap.get? b = some o) → us.length = params.length → BindsTo s fd ⟨us,[]⟩ (params.zip us)) (hS:∀ L,Ss W (funCx fd a L d (C L)) body T) :
  Fn W (d + 1) (.ref a) (fun avs ob k => avs.length = params.length ∧ trees avs = true ∧ T (setVs (vs₀ fd) is avs) [] (retK fun av => k av ob)):=by
 intro A c hid vs ob k s as Q avs us hA ⟨hl,htr,hT⟩ R hv hQ
 have tv:=hv.tvs htr
 have R₀:=R.hideAll
 have hul:us.length = params.length:=by rw [← hl,hv.length]
 have e:c.av (hid ++ live as) [] = c.av hid as:=by
  unfold Cx.av
  show c.own ++ (hid ++ live as) ++ [] = c.own ++ hid ++ live as
  rw [List.append_nil,List.append_assoc]
 refine wpAny_call (funEnter F hB hA (.of (hbind s us R.base.sub hul) hul (VVs.of (by rw [e]; exact tv))) R₀ fun L h t R₁ hn g => ?_)
 refine hS L (A.deeper (funCx fd a L d (C L)).env) _ _ [] _ { s with heap:=h,toks:=t } [] _ (okA_deeper hA) hT R₁ fun f h₂ t₂ fl vs₂ ob₂ as₂ hk₂ R₂ hf₂ kw₂ ex₂ => ?_
 have kp:Kp W [] s.heap h₂:=Kp.trans (Kp.grow g []) kw₂ fun b hb => (List.mem_append.mp hb).elim (fun q => .inr (hn b q)) fun q => nomatch q
 cases fl with
 | next =>
  cases hf₂
  obtain ⟨R₃,_⟩:=R.kept R₂ kp
  exact hQ .none h₂ t₂ .none ob as hk₂ R₃ TV.none (kp.more fun _ ha => nomatch ha) .refl
 | ret av =>
  obtain ⟨v,rfl,hv₂⟩:=hf₂
  obtain ⟨b,ob',etr,hk⟩:=hk₂
  obtain ⟨as₃,R₃,_,t₃⟩:=tr_ok R₂ hv₂ etr
  obtain ⟨R₄,up⟩:=R.kept R₃ kp
  exact hQ v h₂ t₂ b ob as hk R₄ (VV.of (t₃.mono up)) (kp.more fun _ ha => nomatch ha) .refl
 | brk => exact hk₂.elim
 | cont => exact hk₂.elim
noncomputable def retS (k:AV → OB → Prop):AF → VS → OB → Prop
 | .ret av,_,ob => (∀ i,av ≠ .clo i) ∧ k av ob
 | .next,_,ob => k .none ob
 | _,_,_ => False
theorem VVs.other {C C':CP} {G:GP} {as:AS} {xs vs} (t:VVs C G as xs vs) (h:∀ x ∈ xs,∀ i,x ≠ .clo i):VVs C' G as xs vs:=t.imp fun _ _ m a => a.other (h _ m)
theorem funShared {a:Addr} {fd:FuncData} {body:List Stmt} {params:List Str} {is:List Nat} {d:Nat} {C:Addr → CP} {T:TS} (F:FunOk W a fd body params) (hB:∀ L,Binds W (funCx fd a L d (C L)) params is) (hS:∀ L,Ss W (funCx fd a L d (C L)) body T)
  {A:Around} {vs:VS} {ob:OB} {as:AS} {s:Shared} {args:Args} {avs:List AV} {k:AV → OB → Prop} {Q:Value → Shared → Prop} (hA:OkA (d + 1) A) (hbind:BindsG W c hid as s fd args params avs)
  (hT:T (setVs (vs₀ fd) is avs) ob (retS k)) (R:Rel W c hid vs ob as s.heap)
  (hQ:∀ (v:Value) (h':Heap) (tk:Nat) (av:AV) (ob':OB) (as':AS),k av ob' → Rel W c hid vs ob' as' h' → VV c.isclo (Gh W h' (c.av hid as')) as' av v → Kp W (live as) s.heap h' → Ex s.heap as as' → Q v { s with heap:=h',toks:=tk }) :
  wpAny (model W.prog W.w) A (call (.ref a) args.pos args.kw) Q (fun _ _ => False) s:=by
 refine wpAny_call (funEnter F hB hA hbind R fun L h t R₁ hn g => ?_)
 refine hS L (A.deeper (funCx fd a L d (C L)).env) _ _ ob _ { s with heap:=h,toks:=t } as _ (okA_deeper hA) hT R₁ fun f h₂ t₂ fl vs₂ ob₂ as₂ hk₂ R₂ hf₂ kw₂ ex₂ => ?_
 have kp:Kp W (live as) s.heap h₂:=Kp.trans (Kp.grow g _) kw₂ fun b hb => (List.mem_append.mp hb).elim (fun q => .inr (hn b q)) .inl
 have ex:Ex s.heap as as₂:=Ex.refl.trans (Kp.grow (W:=W) g []) ex₂
 obtain ⟨R₃,up⟩:=R.leave R₂ kp ex fun _ _ _ e => e
 cases fl with
 | next => cases hf₂; exact hQ .none h₂ t₂ .none ob₂ as₂ hk₂ R₃ TV.none kp ex
 | ret av =>
  obtain ⟨v,rfl,hv₂⟩:=hf₂
  exact hQ v h₂ t₂ av ob₂ as₂ hk₂.2 R₃ ((hv₂.mono up).other hk₂.1) kp ex
 | brk => exact hk₂.elim
 | cont => exact hk₂.elim
end
section
set_option backward.match.sparseCases false
variable {W:Wd} {c:Cx} {hid:List Addr}
structure ClsOk (W:Wd) (C N:Addr) (mN:Str → Option Value):Prop where
 cls:ClsAt W.h₀ C N mN
 ga:mN "__getattribute__" = none
 gh:mN "__getattr__" = none
 sa:mN "__setattr__" = none
theorem ClsOk.obj {C N:Addr} {mN:Str → Option Value} (X:ClsOk W C N mN):∃ nm q bs sn sub ab col dd k0 k1 k2 k3 k5 newId,W.h₀.get? C = some (excClassObj nm q C N bs [.type "object"] true sn sub ab col dd k0 k1 k2 k3 k5 newId):=by
 obtain ⟨nm,q,bs,sn,sub,col,dd,k0,k1,k2,k3,k5,e⟩:=X.cls.obj
 exact ⟨nm,q,bs,sn,sub,_,col,dd,k0,k1,k2,k3,k5,_,e⟩
theorem ClsOk.ns {C N:Addr} {mN:Str → Option Value} (X:ClsOk W C N mN):W.h₀.Ns N mN:=X.cls.ns
noncomputable def isData:AV → Bool
 | .cst _ | .clo _ => false
 | _ => true
theorem TV.handed {G:GP} {x v} (t:TV G x v):isData x = true → handedOut v = pure v:=by cases t <;> first | exact fun _ => rfl | exact fun h => absurd h Bool.false_ne_true
theorem handed_ok {C} {G:GP} {as:AS} {x v} (h:VV C G as x v) (hd:isData x = true):handedOut v = pure v:=by
 cases x with
 | loc k => obtain ⟨a,b,rfl,_⟩:=h; rfl
 | clo => exact absurd hd Bool.false_ne_true
 | _ => exact TV.handed (G:=G) h hd
theorem lookup_ok {C} {G:GP} {as:AS} {name:Str} {x:AV} {xs:List AV} {us:List Value} (t:VVs C G as xs us):∀ {ns:List Str},(ns.zip xs).lookup name = some x → ∃ v,fld ns us name = some v ∧ VV C G as x v:=by
 induction t with
 | nil => intro ns h; rw [List.zip_nil_right] at h; exact noS h
 | @cons y u _ _ t _ ih =>
  intro ns h
  cases ns with
  | nil => exact noS h
  | cons n ns =>
   unfold fld
   rw [List.zip_cons_cons,List.lookup_cons] at h ⊢
   cases q:name == n with
   | true => rw [q] at h; exact ⟨u,rfl,Option.some.inj h ▸ t⟩
   | false => rw [q] at h; exact ih h
noncomputable def AO.inst?:AO → Option (Addr × List Str × List AV)
 | .inst C ns xs => some (C,ns,xs)
 | .ifrz C ns xs => some (C,ns,xs)
 | _ => Option.none
noncomputable def instOf (ob:OB):AV → Option (Addr × List Str × List AV)
 | .inst C ns xs => some (C,ns,xs)
 | .loc k => ob[k]?.bind AO.inst?
 | _ => Option.none
theorem inst_of_tv {h:Heap} {av:List Addr} {cls:Addr} {ns:List Str} {xs:List AV} {v:Value} (t:TV (Gh W h av) (.inst cls ns xs) v):∃ a us m,v = .ref a ∧ h.Inst a cls m ∧ (∀ y,m y = fld ns us y) ∧ TVs (Gh W h av) xs us:=by
 cases t with
 | inst g c1 c2 ed hne gd hn hm ts =>
  obtain ⟨es,ep,r1,r2,r3,r4⟩:=hn
  exact ⟨_,_,_,rfl,⟨_,g.1,c1,c2,.inr ⟨_,ed,hne,_,es,ep,gd.1,r1,r2,r3,r4⟩⟩,hm,ts⟩
theorem AO.inst_ok {av:List Addr} {as:AS} {h:Heap} {o:AO} {p:Own} {cls:Addr} {ns:List Str} {xs:List AV} (r:AOis W av as h o p) (e:o.inst? = some (cls,ns,xs)):∃ us m,h.Inst p.1 cls m ∧ (∀ y,m y = fld ns us y) ∧ VVs noC (Gh W h av) as xs us:=by
 cases o with
 | inst =>
  obtain ⟨rfl,f⟩:=Prod.mk.inj (Option.some.inj e)
  obtain ⟨rfl,rfl⟩:=Prod.mk.inj f
  obtain ⟨us,m,_,I,_,hm,t⟩:=r
  exact ⟨us,m,I,hm,t⟩
 | ifrz =>
  obtain ⟨rfl,f⟩:=Prod.mk.inj (Option.some.inj e)
  obtain ⟨rfl,rfl⟩:=Prod.mk.inj f
  obtain ⟨r',us,m,e1,e2,e3,e4⟩:=inst_of_tv r.2
  exact ⟨us,m,Value.ref.inj e1 ▸ e2,e3,VVs.of e4⟩
 | _ => exact noS e
theorem inst_ok {vs:VS} {ob:OB} {as:AS} {h:Heap} {a:AV} {v:Value} {cls:Addr} {ns:List Str} {xs:List AV} (R:Rel W c hid vs ob as h) (hv:VV c.isclo (Gh W h (c.av hid as)) as a v) (e:instOf ob a = some (cls,ns,xs)) :
  ∃ r us m,v = .ref r ∧ h.Inst r cls m ∧ (∀ y,m y = fld ns us y) ∧ VVs noC (Gh W h (c.av hid as)) as xs us:=by
 cases a with
 | inst cls' ns' xs' =>
  obtain ⟨rfl,f⟩:=Prod.mk.inj (Option.some.inj e)
  obtain ⟨rfl,rfl⟩:=Prod.mk.inj f
  obtain ⟨r,us,m,e1,e2,e3,e4⟩:=inst_of_tv (show TV _ _ v from hv)
  exact ⟨r,us,m,e1,e2,e3,VVs.of e4⟩
 | loc k =>
  obtain ⟨r,b,rfl,er⟩:=hv
  exact bindE e fun o q e => (R.objs.2 k _ q).elim fun p x => by
   obtain rfl:=Option.some.inj (er.symm.trans x.1)
   exact (AO.inst_ok x.2 e).elim fun us z => z.elim fun m z => ⟨r,us,m,rfl,z⟩
 | _ => exact noS e
theorem Attribute_any {A:Around} {value:Expr} {attr:Str} {pos:Pos} {s:Shared} {Q:Value → Shared → Prop} (hb:isBareCall value = false)
  (h:wpAny (model W.prog W.w) A (eval value c.env) (fun o s₁ => wpAny (model W.prog W.w) A (getAttr o attr true) Q (fun _ _ => False) s₁) (fun _ _ => False) s) :
  wpAny (model W.prog W.w) A (eval (.Attribute value attr pos) c.env) Q (fun _ _ => False) s:=by
 rw [arm_eval_Attribute,base_ok hb]
 refine wpAny_bind (wpF h fun o s₁ h₁ => wpAny_bind (wpAny_standAt (wpAny_bind (wpAny_holding (wpF h₁ fun r s₂ h₂ => wpAny_bind (wpAny_letTemporaryGo (wpAny_pure h₂)))))))
theorem E.attr {value:Expr} {name:Str} {pos:Pos} {Tv:TE} (hv:E W c value Tv) (hb:isBareCall value = false) :
  E W c (.Attribute value name pos) (fun vs ob k => Tv vs ob fun a ob₁ => ∃ cls ns xs x N mN,instOf ob₁ a = some (cls,ns,xs) ∧ (ns.zip xs).lookup name = some x ∧ isData x = true ∧ ClsOk W cls N mN ∧ mN name = Option.none ∧ typeLookup (.type "object") name = pure Option.none ∧ k x ob₁):=by
 intro A hid vs ob k s as Q hA ht R hQ
 refine Attribute_any hb (hv A hid vs ob _ s as _ hA ht R fun v h₁ t₁ a ob₁ as₁ hk R₁ hv₁ kp ex => ?_)
 obtain ⟨cls,ns,xs,x,N,mN,e1,e2,e3,C,e4,e5,hk⟩:=hk
 obtain ⟨r,us,m,rfl,I,hm,vv⟩:=inst_ok R₁ hv₁ e1
 obtain ⟨u,hu,vu⟩:=lookup_ok vv e2
 obtain ⟨nm,q,bs,sn,sub,ab,col,dd,k0,k1,k2,k3,k5,newId,hC⟩:=C.obj
 have vu':VV c.isclo (Gh W h₁ (c.av hid as₁)) as₁ x u:=vu.other fun i e => by (first | exact noO e e3 | exact noI e e3 | (rw [e] at e3; cases e3))
 exact load_attr (R₁.base.sub _ _ hC) (C.ns.keeps R₁.base.sub) C.ga e4 e5 I (by rw [hm]; exact hu) (handed_ok vu e3) (hQ u h₁ (t₁ + 1) x ob₁ as₁ hk R₁ vu' kp ex)
end
section
variable {W:Wd} {c:Cx} {hid:List Addr}
theorem withinNames {ns:List Str} {us:List Value} {m:Str → Option Value} (hm:∀ y,m y = fld ns us y):PySem.Within m ns:=fun y hy => by
 rw [hm y] at hy
 unfold fld at hy
 cases q:(ns.zip us).lookup y with
 | none => exact absurd q hy
 | some v => exact (List.of_mem_zip (mem_of_lookup q)).1
theorem S.setAttr {o e:Expr} {name:Str} {ap pos:Pos} {Te To:TE} (he:E W c e Te) (ho:E W c o To) (hs:swapsWith e (some (.Attribute o name ap)) pos.line c.env = pure false) :
  S W c (.Assign [.Attribute o name ap] e pos) (fun vs ob k => Te vs ob fun y ob₁ => To vs ob₁ fun a ob₂ => isData y = true ∧ ∃ j cls ns xs N mN,a = .loc j ∧ ob₂[j]? = some (.inst cls ns xs) ∧ ns.length ≤ sizeLine ∧ ClsOk W cls N mN ∧ mN name = Option.none ∧ typeLookup (.type "object") name = pure Option.none ∧
   k .next vs (ob₂.set j (.inst cls (name :: ns) (y :: xs)))):=by
 intro A hid vs ob k s as Q hA ht R hQ
 refine plainObj_wpAny_Assign_Attribute (he A hid vs ob _ s as _ hA ht R fun vy h₁ t₁ y ob₁ as₁ ht₁ R₁ hvy kp₁ ex₁ => ?_) hs
 refine ho.then hA ht₁ R₁ kp₁ ex₁ fun va h₂ t₂ a ob₂ as₂ hk R₂ hva kp₂ ex₂ kp ex => ?_
 obtain ⟨hy,j,cls,ns,xs,N,mN,ea,e1,hsz,C,e4,e5,hk⟩:=hk
 subst ea
 have hvy':=(hvy.step kp₂ (fun a ha => mem_av_live ha) ex₂).other (C':=noC) fun i e => by (first | exact noO e hy | exact noI e hy | (rw [e] at hy; cases hy))
 obtain ⟨r,b,rfl,er⟩:=hva
 obtain ⟨p,ep,us,m,hb,I,⟨o₀,d,e₀,ed,hd⟩,hm,t⟩:=R₂.objs.2 j _ e1
 rw [er] at ep
 cases ep
 obtain ⟨nm,q,bs,sn,sub,ab,col,dd,k0,k1,k2,k3,k5,newId,hC⟩:=C.obj
 have hC₂:=R₂.base.sub _ _ hC
 have hrC:r ≠ cls:=fun e => by
  have hm:r ∈ c.av hid as₂:=mem_av_live (mem_live_of er hb (.inl rfl))
  have:=(R₂.base.dis r hm).1
  rw [e,hC] at this; cases this
 refine store_attr PySem.F.store_object hC₂ (C.ns.keeps R₂.base.sub) C.sa e4 e5 hrC I (fun h' tk' I' hk' hsame => ?_) (withinNames hm) hsz
 obtain ⟨o₁,e₁,_,_,_,hd₁⟩:=hsame o₀ e₀
 have hd₁:=hd₁ d ed
 have hns:h'.Ns1 d (fun y' => if y' = name then some vy else m y'):=by
  obtain ⟨o',e',_,_,hr⟩:=I'
  rw [e₁] at e'
  cases e'
  rcases hr with ⟨hn,_⟩ | ⟨d',hd',_,hn'⟩
  ·(first | exact noO hn hd₁ | exact noI hn hd₁ | (rw [hn] at hd₁; cases hd₁))
  ·rw [hd'] at hd₁; cases hd₁; exact hn'
 obtain ⟨L,fb⟩:=b
 have gk:∀ b' o,b' ≠ r → b' ∉ L → h₂.get? b' = some o → h'.get? b' = some o:=fun b' o h1 h2 => hk' b' o h1 fun o' dx e e' q => by
  (first | exact noO e₀ e | exact noI e₀ e | (rw [e₀] at e; cases e))
  (first | exact noO ed e' | exact noI ed e' | (rw [ed] at e'; cases e'))
  exact h2 (q ▸ hd)
 have gs:∀ b',b' = r ∨ b' ∈ L → (h'.get? b').isSome = true:=fun b' hb' => by
  by_cases q1:b' = r
  ·rw [q1,e₁]; rfl
  ·by_cases q2:b' = d
   ·rw [q2]; exact ns_isSome hns.ns
   ·have hin:b' ∈ live as₂:=mem_live_of er hb hb'
    have:=(R₂.base.dis b' (mem_av_live hin)).2.1
    cases z:h₂.get? b' with
    | none => (first | exact noO z this | exact noI z this | (rw [z] at this; cases this))
    | some o =>
     rw [hk' b' o q1 (fun o' dx e e' q => by
      (first | exact noO e₀ e | exact noI e₀ e | (rw [e₀] at e; cases e))
      (first | exact noO ed e' | exact noI ed e' | (rw [ed] at e'; cases e'))
      exact q2 q) z]; rfl
 have hm':∀ y',(fun y' => if y' = name then some vy else m y') y' = fld (name :: ns) (vy :: us) y':=fun y' => by
  unfold fld
  rw [List.zip_cons_cons,List.lookup_cons]
  by_cases q:y' = name
  ·subst q; simp
  ·rw [beq_false_of_ne q]
   show (if y' = name then some vy else m y') = _
   rw [if_neg q]
   exact hm y'
 obtain ⟨R₃,kl⟩:=R₂.put (h':=h') (ao:=.inst cls (name :: ns) (y :: xs)) er hb gk gs fun kl f g i => ⟨vy :: us,_,hb,I',⟨o₁,d,e₁,hd₁,hd⟩,hm',.cons (f y vy hvy') (g _ _ t)⟩
 exact hQ .next h' tk' .next vs _ as₂ hk R₃ rfl (kp.trans kl ex.live).kw ex
end
section
set_option backward.match.sparseCases false
variable {W:Wd} {c:Cx} {hid:List Addr}
theorem E.debug {x:Str} {pos:Pos} (hd:(x == ("__debug__" : Str)) = true):E W c (.Name x pos) (fun _ ob k => k (.bool true) ob):=by
 intro A hid vs ob k s as Q hA hk R hQ
 have e:eval (.Name x pos) c.env = ((do
   standAt pos
   if x == ("__debug__" : Str) then (do rule "name.__debug__"; pure (Value.bool true)) else loadName c.env x):Sem Value):=rfl
 rw [e,hd]
 exact wpAny_bind (wpAny_standAt (wpAny_bind (wpAny_rule (wpAny_pure (hQ _ s.heap s.toks _ _ as hk R (TV.bool true) .refl .refl)))))
noncomputable def tyC:AV → Option String
 | .str _ => some "str"
 | .int _ => some "int"
 | .bool _ => some "bool"
 | .tup _ => some "tuple"
 | _ => Option.none
noncomputable def tyName (ob:OB) (a:AV):Option String:=match tyC a with
 | some T => some T
 | Option.none => (rdL ob a).map fun _ => "list"
noncomputable def bType:BF:=m1 fun a ob => (tyName ob a).map fun T => (.cst (.type T),ob)
theorem tyC_ok {C:CP} {h:Heap} {as:AS} {s:Shared} {av:List Addr} {T:String} {x:AV} {u:Value} (t:VV C (Gh W s.heap av) as x u) (q:tyC x = some T):s.TypeIs u T ∧ (Value.type T == Value.type "builtin_function_or_method") = false:=by
 cases x <;> first | exact noS q | (cases q; done) | skip
 case bool b =>
  have t':TV _ (.bool b) u:=t
  cases t'
  cases q
  exact ⟨rfl,by decide⟩
 case int i => cases q; obtain ⟨tk,rfl⟩:=t.int; exact ⟨typeIs_int _ _ _,by decide⟩
 case str i => cases q; obtain ⟨tk,rfl⟩:=t.str; exact ⟨typeIs_str _ _ _,by decide⟩
 case tup i => cases q; obtain ⟨us,l,n,rfl,g,_⟩:=t.tup; exact ⟨⟨_,g.1,rfl⟩,by decide⟩
theorem type_ok {d:Nat}:Fn W d (.type "type") (runF bType):=by
 refine Fn.tree fun A c hid vs ob s as Q avs us a ob' hA e R hv => ?_
 obtain ⟨x,rfl,e⟩:=m1E e
 obtain ⟨u,rfl,t⟩:=hv.one
 refine mapE e fun T q e => ?_
 obtain ⟨rfl,rfl⟩:=Prod.mk.inj e
 refine ⟨rfl,fun hQ => ?_⟩
 have fin:s.TypeIs u T ∧ (Value.type T == Value.type "builtin_function_or_method") = false → wpAny (model W.prog W.w) A (call (.type "type") [u]) Q (fun _ _ => False) s:=fun h =>
  call_type_of h.1 h.2 (hQ _ s.heap s.toks (fun _ _ e => e) (.cst _))
 unfold tyName at q
 cases q':tyC x with
 | some T' => rw [q'] at q; cases q; exact fin (tyC_ok (h:=s.heap) t q')
 | none =>
  rw [q'] at q
  refine mapE q fun xs er q => ?_
  subst q
  obtain ⟨l,us,n,rfl,g,_⟩:=rd_ok R.objs t er
  exact fin ⟨⟨_,g,rfl⟩,by decide⟩
end
section
variable {W:Wd} {c:Cx} {hid:List Addr}
noncomputable def Ks (W:Wd) (c:Cx) (kws:List Keyword) (T:TEs):Prop :=
 ∀ (A:Around) (hid:List Addr) (vs:VS) (ob:OB) (k:List AV → OB → Prop) (s:Shared) (as:AS) (pos:Pos) (Q:List Value → Shared → Prop),
  OkA c.d A → T vs ob k → Rel W c hid vs ob as s.heap →
  (∀ (us:List Value) (h':Heap) (tk:Nat) (avs:List AV) (ob':OB) (as':AS),k avs ob' → Rel W c hid vs ob' as' h' → VVs c.isclo (Gh W h' (c.av hid as')) as' avs us → Kp W (live as) s.heap h' → Ex s.heap as as' → Q us { s with heap:=h',toks:=tk }) →
  wpAny (model W.prog W.w) A (evalAll ((backToKw pos (keywordEach kws c.env)).map (·.2))) Q (fun _ _ => False) s
theorem Ks.nil:Ks W c [] (fun _ ob k => k [] ob):=fun _ _ _ _ _ s as _ _ _ hk R hQ => wpAny_evalAll_nil (hQ _ s.heap s.toks _ _ as hk R .nil .refl .refl)
theorem Ks.cons {nm:Option Str} {e:Expr} {p:Pos} {es:List Keyword} {T:TE} {Ts:TEs} (h:E W c e T) (hs:Ks W c es Ts) :
  Ks W c (⟨nm,e,p⟩ :: es) (fun vs ob k => T vs ob fun a ob₁ => Ts vs ob₁ fun as ob₂ => k (a :: as) ob₂):=by
 intro A hid vs ob k s as pos Q hA ht R hQ
 refine wpAny_evalAll_cons (wpAny_bind (h A hid vs ob _ s as _ hA ht R fun v h₁ t₁ a ob₁ as₁ hk R₁ hv kp ex => wpAny_bind (wpAny_standAt (wpAny_pure ?_))))
 refine hs A hid vs ob₁ _ { s with heap:=h₁,toks:=t₁ } as₁ pos _ hA hk R₁ fun us h₂ t₂ avs ob₂ as₂ hk₂ R₂ hvs kp₂ ex₂ => ?_
 exact hQ _ h₂ t₂ _ ob₂ as₂ hk₂ R₂ (.cons (hv.step kp₂ (fun a ha => mem_av_live ha) ex₂) hvs) (kp.trans kp₂ ex.live) (ex.trans kp ex₂)
noncomputable def kwNames (kws:List Keyword):List Str:=kws.filterMap (·.arg)
noncomputable def allNamed (kws:List Keyword):Bool:=kws.all (·.arg.isSome)
theorem kw_names {pos:Pos} {env:Env} (kws:List Keyword):(backToKw pos (keywordEach kws env)).filterMap (·.1) = kwNames kws:=by
 induction kws with
 | nil => rfl
 | cons k es ih =>
  cases k with
  | mk nm e p => cases nm with
   | none => exact ih
   | some x => exact congrArg (x :: ·) ih
theorem kw_all {pos:Pos} {env:Env} {kws:List Keyword}:allNamed kws = true → (backToKw pos (keywordEach kws env)).all (·.1.isSome) = true:=by
 induction kws with
 | nil => exact fun _ => rfl
 | cons k es ih => cases k with
  | mk nm e p => exact fun h => Bool.and_eq_true_iff.mpr ⟨(and2 h).1,ih (and2 h).2⟩
theorem argsK {f:Value} {pos:Pos} {es:List Expr} {kws:List Keyword} {A:Around} {Q:Args → Shared → Prop} {s:Shared} (hn:noStar es = true) (hk:allNamed kws = true)
  (h:wpAny (model W.prog W.w) A (spliced (backTo pos (starEach es c.env))) (fun us s₁ => wpAny (model W.prog W.w) A (evalAll ((backToKw pos (keywordEach kws c.env)).map (·.2))) (fun ks s₂ => Q ⟨us,(kwNames kws).zip ks⟩ s₂) (fun _ _ => False) s₁) (fun _ _ => False) s) :
  wpAny (model W.prog W.w) A (evalArgs f true (backTo pos (starEach es c.env)) (backToKw pos (keywordEach kws c.env))) Q (fun _ _ => False) s:=by
 cases es with
 | nil =>
  unfold evalArgs
  show wpAny (model W.prog W.w) A (spliced (backTo pos (starEach [] c.env)) >>= _) _ _ s
  refine wpAny_bind (wpF h fun us s₁ h₁ => wpAny_bind (wpAny_pure ?_))
  refine wpAny_holding ?_
  simp only [kw_all hk,if_true]
  refine wpAny_bind (wpF h₁ fun ks s₂ h₂ => ?_)
  rw [kw_names]
  exact wpAny_bind (wpAny_pure (wpAny_pure h₂))
 | cons e es =>
  have hs:isStar e = false:=by unfold noStar at hn; rw [List.all_cons,Bool.and_eq_true] at hn; simpa using hn.1
  rw [starEach_cons hs] at h ⊢
  refine evalArgs_kw (kw_all hk) ?_
  rw [kw_names]
  exact h
noncomputable abbrev TK:=List AV → List AV → OB → (AV → OB → Prop) → Prop
noncomputable def FnK (W:Wd) (d:Nat) (f:Addr) (kwn:List Str) (T:TK):Prop :=
 ∀ (A:Around) (c:Cx) (hid:List Addr) (vs:VS) (ob:OB) (k:AV → OB → Prop) (s:Shared) (as:AS) (Q:Value → Shared → Prop) (avs kvs:List AV) (us ks:List Value),
  OkA d A → T avs kvs ob k → Rel W c hid vs ob as s.heap → VVs c.isclo (Gh W s.heap (c.av hid as)) as avs us → VVs c.isclo (Gh W s.heap (c.av hid as)) as kvs ks →
  (∀ (v:Value) (h':Heap) (tk:Nat) (av:AV) (ob':OB) (as':AS),k av ob' → Rel W c hid vs ob' as' h' → VV c.isclo (Gh W h' (c.av hid as')) as' av v → Kp W (live as) s.heap h' → Ex s.heap as as' → Q v { s with heap:=h',toks:=tk }) →
  wpAny (model W.prog W.w) A (call (.ref f) us (kwn.zip ks)) Q (fun _ _ => False) s
theorem FnK.then {d:Nat} {f:Addr} {kwn:List Str} {T:TK} (H:FnK W d f kwn T) {A:Around} {vs:VS} {ob':OB} {as as':AS} {s:Shared} {h':Heap} {tk:Nat} {k:AV → OB → Prop} {Q:Value → Shared → Prop} {avs kvs us ks} (hA:OkA c.d A) (hd:d ≤ c.d)
  (ht:T avs kvs ob' k) (R':Rel W c hid vs ob' as' h') (hv:VVs c.isclo (Gh W h' (c.av hid as')) as' avs us) (hk:VVs c.isclo (Gh W h' (c.av hid as')) as' kvs ks) (kp:Kp W (live as) s.heap h') (ex:Ex s.heap as as')
  (hQ:∀ (v:Value) (h'':Heap) (tk:Nat) (av:AV) (ob'':OB) (as'':AS),k av ob'' → Rel W c hid vs ob'' as'' h'' → VV c.isclo (Gh W h'' (c.av hid as'')) as'' av v → Kp W (live as) s.heap h'' → Ex s.heap as as'' → Q v { s with heap:=h'',toks:=tk }) :
  wpAny (model W.prog W.w) A (call (.ref f) us (kwn.zip ks)) Q (fun _ _ => False) { s with heap:=h',toks:=tk } :=
 H A c hid vs ob' k { s with heap:=h',toks:=tk } as' Q avs kvs us ks (hA.le hd) ht R' hv hk fun v h'' tk' av ob'' as'' hk R'' hv kp' ex' => hQ v h'' tk' av ob'' as'' hk R'' hv (kp.trans kp' ex.live) (ex.trans kp ex')
theorem fld_none {ns:List Str} {us:List Value} {name:Str} (h:ns.contains name = false):fld ns us name = Option.none:=by
 cases q:fld ns us name with
 | none => rfl
 | some v =>
  have hm:=(List.of_mem_zip (mem_of_lookup q)).1
  rw [List.contains_iff_mem.mpr hm] at h
  cases h
structure MethOk (W:Wd) (C:Addr) (name:Str) (f:Addr):Prop where
 ex:∃ N mN,ClsOk W C N mN ∧ mN name = some (.ref f)
 fn:∃ o fd,W.h₀.get? f = some o ∧ o.cls = .type "function" ∧ o.data = .func fd
 obj:∃ y,typeLookup (.type "object") name = pure y
theorem E.umeth {o:Expr} {name:Str} {apos pos:Pos} {args:List Expr} {kws:List Keyword} {To:TE} {Ta Tk:TEs} (ho:E W c o To) (ha:Es W c args Ta) (hk:Ks W c kws Tk) (hb:isBareCall o = false) (hn:noStar args = true) (hkw:allNamed kws = true)
  (hl:args.length + kws.length < 29) (hline:(apos.endLine == pos.line) = true) :
  E W c (.Call (.Attribute o name apos) args kws pos) (fun vs ob k => To vs ob fun a ob₁ => ∃ C ns xs f d T,instOf ob₁ a = some (C,ns,xs) ∧ ns.contains name = false ∧ MethOk W C name f ∧ FnK W d f (kwNames kws) T ∧ d ≤ c.d ∧
   Ta vs ob₁ fun avs ob₂ => Tk vs ob₂ fun kvs ob₃ => T (a :: avs) kvs ob₃ k):=by
 intro A hid vs ob k s as Q hA ht R hQ
 have hform:methodCallForm (args.length + kws.length) (backTo pos (starEach args c.env)) (backToKw pos (keywordEach kws c.env)) = true:=by
  unfold methodCallForm
  rw [backTo_all,starEach_any hn,kw_all hkw]
  simp only [Bool.not_false,Bool.true_and]
  split <;> simp <;> lia
 have hpos:methodCallPos true o c.env apos pos = pure pos:=by unfold methodCallPos; simp [hline]
 rw [arm_eval_Call,base_ok hb]
 refine wpAny_bind (ho A hid vs ob _ s as _ hA ht R fun v h₁ t₁ a ob₁ as₁ hk₁ R₁ hv₁ kp ex => ?_)
 obtain ⟨C,ns,xs,f,d,T,e1,e2,M,hfn,hd,ht₁⟩:=hk₁
 obtain ⟨r,us,m,rfl,I,hm,vv⟩:=inst_ok R₁ hv₁ e1
 obtain ⟨N,mN,Cl,hf⟩:=M.ex
 obtain ⟨of,fd,hfo,hfc,hfd⟩:=M.fn
 obtain ⟨y,hB⟩:=M.obj
 obtain ⟨nm,q,bs,sn,sub,ab,col,dd,k0,k1,k2,k3,k5,newId,hC⟩:=Cl.obj
 refine wpAny_bind (wpAny_standAt ?_)
 unfold methodCall
 rw [hform]
 refine wpAny_bind (wpAny_holding (method_of (R₁.base.sub _ _ hC) (Cl.ns.keeps R₁.base.sub) Cl.ga Cl.gh hf (R₁.base.sub _ _ hfo) hfc hB I (by rw [hm]; exact fld_none e2) ?_))
 refine wpAny_bind (wpAny_of_eq hpos ?_)
 refine callWith_function_kw (o:=of) (fd:=fd) (argsK (c:=c) hn hkw ?_)
 refine ha A hid vs ob₁ _ { s with heap:=h₁,toks:=t₁ } as₁ pos _ hA ht₁ R₁ fun us₂ h₂ t₂ avs ob₂ as₂ ht₂ R₂ hvs₂ kp₂ ex₂ => ?_
 refine hk A hid vs ob₂ _ { s with heap:=h₂,toks:=t₂ } as₂ pos _ hA ht₂ R₂ fun us₃ h₃ t₃ kvs ob₃ as₃ ht₃ R₃ hvs₃ kp₃ ex₃ => ?_
 have hv₃:=(hv₁.step kp₂ (fun a ha => mem_av_live ha) ex₂).step kp₃ (fun a ha => mem_av_live ha) ex₃
 have hvs₂':=VVs.step kp₃ (fun a ha => mem_av_live ha) ex₃ hvs₂
 refine ⟨⟨R₃.base.sub _ _ hfo,hfd⟩,?_⟩
 have kp':=kp.trans kp₂ ex.live
 have ex':=ex.trans kp ex₂
 exact hfn.then (s:=s) hA hd ht₃ R₃ (.cons hv₃ hvs₂') hvs₃ (kp'.trans kp₃ ex'.live) (ex'.trans kp' ex₃) hQ
end
section
variable {W:Wd} {c:Cx} {hid:List Addr}
noncomputable def It0 (W:Wd) (c:Cx) (e:Expr) (T:VS → OB → (OB → Prop) → Prop):Prop :=
 ∀ (A:Around) (hid:List Addr) (vs:VS) (ob:OB) (k:OB → Prop) (s:Shared) (as:AS) (Q:Value → Shared → Prop),
  OkA c.d A → T vs ob k → Rel W c hid vs ob as s.heap →
  (∀ (I:Addr) (h':Heap) (tk:Nat) (ob':OB) (as':AS),k ob' → Rel W c (I :: hid) vs ob' as' h' → s.heap.get? I = Option.none →
   (∀ (Q':Option Value → Shared → Prop),(∀ h'' tk',(∀ b o,b ≠ I → h'.get? b = some o → h''.get? b = some o) → Q' Option.none { s with heap:=h'',toks:=tk' }) → wpAny (model W.prog W.w) A (pyNext (.ref I)) Q' (fun _ _ => False) { s with heap:=h',toks:=tk }) →
   Kp W (live as) s.heap h' → Ex s.heap as as' → Q (.ref I) { s with heap:=h',toks:=tk }) →
  wpAny (model W.prog W.w) A (eval e c.env) (fun x s₁ => wpAny (model W.prog W.w) A (pyIter x) Q (fun _ _ => False) s₁) (fun _ _ => False) s
theorem S.for0 {target iter:Expr} {body orelse:List Stmt} {pos:Pos} {Ti:VS → OB → (OB → Prop) → Prop} {To:TS} (hit:It0 W c iter Ti) (ho:Ss W c orelse To) (hs:∀ x,foldedSetIterable iter c.env x = pure x) :
  S W c (.For target iter body orelse pos) (fun vs ob k => Ti vs ob fun ob' => To vs ob' k):=by
 intro A hid vs ob k s as Q hA ht R hQ
 have hcells:∀ x cc,c.env.cells.lookup x = some cc → cc ∈ c.own ++ hid:=R.ok.cells
 refine wpAny_For (hit A hid vs ob _ s as _ hA ht R fun I h₁ t₁ ob₁ as₁ hk R₁ hI done kp ex => ?_) hs
 have hcI:∀ x cc,c.env.cells.lookup x = some cc → cc ≠ I:=fun x cc e q => by
  have:cc ∈ c.av hid as:=mem_av_oh (hcells x cc e)
  have:=(R.base.dis _ this).2.1
  rw [q,hI] at this; cases this
 refine codeAny_forLoop_any (fun n s' => s' = { s with heap:=h₁,toks:=t₁ }) ?_ 0 rfl
 rintro n s' rfl
 refine wpF (done (fun r s₃ => ∃ h₃ t₃,r = Option.none ∧ (∀ b o,b ≠ I → h₁.get? b = some o → h₃.get? b = some o) ∧ s₃ = { s with heap:=h₃,toks:=t₃ }) fun h₃ t₃ hk₃ => ⟨h₃,t₃,rfl,hk₃,rfl⟩) ?_
 rintro r s₃ ⟨h₃,t₃,rfl,g₃,rfl⟩
 have R₃:=R₁.unhideStep hcells hcI g₃
 have kw₃:Kw W c as s.heap h₃:=⟨fun b o h1 h2 e => g₃ b o (fun q => by rw [q,hI] at e; cases e) (kp.kw.1 b o h1 h2 e),fun b e => by
  have z:=kp.2 b e
  cases y:h₁.get? b with
  | none => (first | exact noO y z | exact noI y z | (rw [y] at z; cases z))
  | some o => rw [g₃ b o (fun q => by rw [q,hI] at e; cases e) y]; rfl⟩
 refine wpF (ho A hid vs ob₁ k { s with heap:=h₃,toks:=t₃ } as₁ Q hA hk R₃ fun f h₄ t₄ fl vs₄ ob₄ as₄ hk₄ R₄ hf₄ kw₄ ex₄ => ?_) fun _ _ h => h
 exact hQ f h₄ t₄ fl vs₄ ob₄ as₄ hk₄ R₄ hf₄ (kw₃.trans kw₄ ex) (ex.trans kw₃ ex₄)
theorem It0.list {e:Expr} {T:TE} (h:E W c e T):It0 W c e (fun vs ob k => T vs ob fun a ob' => ∃ j,a = .loc j ∧ ob'[j]? = some (.list []) ∧ k ob'):=by
 intro A hid vs ob k s as Q hA ht R hQ
 refine h A hid vs ob _ s as _ hA ht R fun v h₁ t₁ a ob₁ as₁ hk R₁ hv kp ex => ?_
 obtain ⟨j,rfl,e1,hk⟩:=hk
 obtain ⟨r,b,rfl,er⟩:=hv
 obtain ⟨p,ep,us,n,hb,g,t⟩:=R₁.objs.2 j _ e1
 rw [er] at ep
 cases ep
 cases t
 have hI:=size_none h₁
 have g₂:∀ o:Obj,∀ b o',h₁.get? b = some o' → (h₁.push o).get? b = some o':=fun o => push_grow _ _
 have hne:r ≠ h₁.objs.size:=fun e => by
  have g:h₁.get? r = _:=g
  rw [e,hI] at g; cases g
 refine wpAny_pyIter_list (items:=#[]) ⟨_,g,rfl,n,rfl⟩ ?_
 have Wk:=Walks.list (prog:=W.prog) (w:=W.w) (A:=A) hA.1 h₁.objs.size r hne #[]
 refine hQ h₁.objs.size _ t₁ ob₁ as₁ hk (R₁.hide (g₂ _) hI (by rw [Heap.get?_push_size _ rfl]; rfl)) ?_ (fun Q' hQ' => ?_) (kp.trans (Kp.grow (g₂ _) []) fun _ ha => nomatch ha) ex
 ·cases q:s.heap.get? h₁.objs.size with
  | none => rfl
  | some o => have:=kp.2 h₁.objs.size (by rw [q]; rfl); (first | exact noO hI this | exact noI hI this | (rw [hI] at this; cases this))
 ·exact Wk.done _ _ _ ⟨⟨_,Heap.get?_push_size _ rfl,rfl,rfl⟩,⟨_,g₂ _ _ _ g,rfl,n,rfl⟩⟩ fun h'' tk' hk' => hQ' h'' tk' fun b o hb e => hk' b o (fun hm => hb (List.mem_singleton.mp hm)) e
theorem It0.items {o:Expr} {apos pos:Pos} {T:TE} (h:E W c o T) (hb:isBareCall o = false) (hline:(apos.endLine == pos.line) = true) :
  It0 W c (.Call (.Attribute o "items" apos) [] [] pos) (fun vs ob k => T vs ob fun a ob' => a = .edict ∧ k ob'):=by
 intro A hid vs ob k s as Q hA ht R hQ
 refine wpAny_Call_method (T:="dict") (id:="dict.items") (base_ok hb) rfl hline F.plainAttrs_dict F.slot_dict_items F.type_dict_items (h A hid vs ob _ s as _ hA ht R fun v h₁ t₁ a ob₁ as₁ hk R₁ hv kp ex => ?_)
 obtain ⟨rfl,hk⟩:=hk
 have hv':TV _ .edict v:=hv
 cases hv'
 rename_i d g hS
 have hd:h₁.DictAt (intKind W.prog W.w) d [] 0:=⟨_,#[],g.1,⟨rfl,rfl,rfl⟩,rfl,fun e he => absurd he (by simp),.nil,.nil⟩
 have hm:=hd.dictOf
 refine ⟨hm.typeIs,hm.mapOf.noDict,?_⟩
 refine method_meetsIn F.slot_dict_items F.entry_dict_items rfl (PySem.evalArgs_none ⟨rfl,hm.typeIs,F.args_dict_items_1 _,_,meets_dict_items (intKind W.prog W.w) d hS,⟨[],hm⟩,?_⟩)
 have g₁:∀ b o',h₁.get? b = some o' → (h₁.push { cls:=.type "dict_items",data:=.fields #[.ref d] }).get? b = some o':=push_grow _ _
 have hd₂:=hd.push { cls:=.type "dict_items",data:=.fields #[.ref d] }
 refine wpAny_pyIter_items (knd:=intKind W.prog W.w) (d:=d) (kvs:=[]) (ep:=0) ⟨_,Heap.get?_push_size _ rfl,rfl,rfl⟩ hd₂ ?_
 have g₂:∀ o:Obj,∀ b o',(h₁.push { cls:=.type "dict_items",data:=.fields #[.ref d] }).get? b = some o' → ((h₁.push { cls:=.type "dict_items",data:=.fields #[.ref d] }).push o).get? b = some o':=fun o => push_grow _ _
 have hI:=size_none (h₁.push { cls:=.type "dict_items",data:=.fields #[.ref d] })
 refine hQ _ _ t₁ ob₁ as₁ hk ((R₁.grow g₁).hide (g₂ _) hI (by rw [Heap.get?_push_size _ rfl]; rfl)) ?_ (fun Q' hQ' => ?_) (kp.trans (Kp.grow (fun b o e => g₂ _ b o (g₁ b o e)) []) fun _ ha => nomatch ha) ex
 ·refine new_none (l:=live as) (kp.trans (Kp.grow g₁ []) fun _ ha => nomatch ha) _ hI
 ·exact wpAny_pyNext_items_end (knd:=intKind W.prog W.w) (kvs:=[]) (i:=0) hA.1 (Heap.get?_push_size _ rfl) (hd₂.push _) rfl fun h'' hx => hQ' h'' t₁ fun b o hb e => hx b o hb e
end
section
variable {W:Wd} {c:Cx} {hid:List Addr}
theorem make_units (C:Addr) (vals:List Value):(Code.builtin "type.__call__" ⟨.ref C :: vals,[]⟩).cUnits ≤ 8:=of_decide_eq_true (by kernel_rfl)
theorem Fn.cls {C N fI:Addr} {mN:Str → Option Value} {T:TK} {d:Nat} (X:ClsOk W C N mN) (hi:mN "__init__" = some (.ref fI)) (hfI:∃ o,W.h₀.get? fI = some o ∧ o.cls = .type "function") (hfn:FnK W d fI [] T) :
  Fn W (d + 1) (.ref C) (fun avs ob k => T (.loc ob.length :: avs) [] (ob ++ [.inst C [] []]) fun r ob' => r = .none ∧ k (.loc ob.length) ob'):=by
 intro A c hid vs ob k s as Q avs us hA hT R hv hQ
 obtain ⟨h,g,dr,t,os⟩:=s
 obtain ⟨nm,q,bs,sn,sub,col,dd,k0,k1,k2,k3,k5,hC⟩:=X.cls.obj
 obtain ⟨oI,hfo,hfc⟩:=hfI
 refine wpAny_call_obj_initFk PySem.F.objNew (R.base.sub _ _ hC) (X.ns.keeps R.base.sub) hi (R.base.sub _ _ hfo) hfc fun h' x dx Mk => ?_
 obtain ⟨ox,hx,hcx,hncx,hdx⟩:=Mk.inst
 have hdd:=Mk.dict ox hx
 obtain ⟨hne,hns⟩:dx ≠ x ∧ h'.Ns1 dx fun _ => Option.none:=by
  rcases hdx with ⟨hn0,_⟩ | ⟨d',hd',hne,hns',_⟩
  ·(first | exact noO hn0 hdd | exact noI hn0 hdd | (rw [hn0] at hdd; cases hdd))
  ·obtain rfl:=Option.some.inj (hd'.symm.trans hdd); exact ⟨hne,hns'⟩
 have hI:h'.Inst x C (fun _ => Option.none):=⟨ox,hx,hcx,hncx,.inr ⟨dx,hdd,hne,hns⟩⟩
 obtain ⟨R₁,ex₁,kp₁⟩:=R.newG (x:=x) (L:=[dx]) (h':=h') Mk.keeps (.inst C [] []) (fun a ha => by
  rcases List.mem_cons.mp ha with rfl | q
  ·exact ⟨Mk.newX,by rw [hx]; rfl⟩
  ·rw [List.mem_singleton.mp q]
   exact ⟨Mk.newD,ns_isSome hns.ns⟩) (by simp [Ne.symm hne]) fun kp ex => ⟨[],fun _ => Option.none,rfl,hI,⟨ox,dx,hx,hdd,List.mem_singleton_self _⟩,fun y => rfl,.nil⟩
 have hA':OkA d (A.under (.builtin "type.__call__" ⟨.ref C :: us,[]⟩)):=by
  refine ⟨hA.1,?_,?_⟩
  ·have:=hA.2.1
   show A.depth + 1 + d < recursionLimit
   lia
  ·have:=hA.2.2
   have:=make_units C us
   show A.units + (Code.builtin "type.__call__" ⟨.ref C :: us,[]⟩).cUnits + 8 * (d + 20) < cLine
   lia
 have hself:VV c.isclo (Gh W h' (c.av hid (as ++ [(x,[dx],true)]))) (as ++ [(x,[dx],true)]) (.loc ob.length) (.ref x):=⟨x,([dx],true),rfl,by rw [← R.objs.1]; simp⟩
 refine hfn (A.under _) c hid vs _ _ ⟨h',g,dr,t,os⟩ _ _ (.loc ob.length :: avs) [] (.ref x :: us) [] hA' hT R₁ (.cons hself (VVs.step kp₁ (fun a ha => mem_av_live ha) ex₁ hv)) .nil fun v h₂ t₂ av ob₂ as₂ hk₂ R₂ hv₂ kp₂ ex₂ => ?_
 obtain ⟨rfl,hk₂⟩:=hk₂
 have hv₂':TV _ .none v:=hv₂
 cases hv₂'
 refine ⟨rfl,hQ _ h₂ t₂ (.loc ob.length) ob₂ as₂ hk₂ R₂ ?_ (kp₁.trans kp₂ ex₁.live) (ex₁.trans kp₁ ex₂)⟩
 obtain ⟨b',e'⟩:=ex₂.1 ob.length x ([dx],true) (by rw [← R.objs.1]; simp)
 exact ⟨x,b',rfl,e'⟩
end
section
open Builtin Builtin.Re
variable {W:Wd} {c:Cx} {hid:List Addr}
theorem slot_search:Slot "re.Pattern" "search" "re.Pattern.search" :=
 .of (owner:="re.Pattern") (n:="search") (by rw [typeLookup_type,builtinLookup_eq_fast]; kernel_rfl) (by decide +kernel) (by decide +kernel) (by decide +kernel)
  (by first | exact .inl (by decide +kernel) | exact .inr (by decide +kernel)) (by rw [isSubtype_type]; kernel_rfl)
theorem entry_search:entryFor table "re.Pattern.search" = some Builtin.«re.Pattern.search»:=entryFor_of_fast (by kernel_rfl)
theorem args_search (a b:Value):argsOk "re.Pattern.search" ⟨[a,b],[]⟩:=by unfold argsOk; kernel_rfl
theorem type_search:typeOf (.builtin "re.Pattern.search") = pure (.type "method_descriptor"):=by kernel_rfl
noncomputable def Clean (code text:Array Nat):Prop:=∀ s,s < text.size → ∀ seen,∃ seen',Sre.inSet code (text.getD s 0) code.size 5 true seen = .ok (false,seen')
theorem admitted_none {m:Sre.M} (h:Clean m.code m.text) (hl:m.lim ≤ m.text.size) (fuel:Nat):∀ (s:Nat) (seen:Sre.Seen),∃ seen',m.admitted fuel s seen = .ok (none,seen'):=by
 induction fuel with
 | zero => exact fun _ seen => ⟨seen,rfl⟩
 | succ fuel ih =>
  intro s seen
  by_cases hs:s ≥ m.lim
  ·exact ⟨seen,if_pos hs⟩
  ·exact (h s (Nat.lt_of_lt_of_le (Nat.lt_of_not_le hs) hl) seen).elim fun seen' e => (ih (s + 1) seen').elim fun w e2 => ⟨w,(if_neg hs).trans (by rw [e]; exact e2)⟩
noncomputable def SetCode (code:Array Nat):Prop:=Sre.ops[code.getD 0 0]? = some .INFO ∧ code.getD 2 0 = 4 ∧ code.getD 3 0 = 1
theorem attempt_none {code text:Array Nat} (hc:SetCode code) (h:Clean code text) (m:Sre.M) (e1:m.code = code) (e2:m.text = text) (e3:m.lim = text.size) (e4:m.outcome = none) (e5:m.frames = []) :
  (m.attemptFrom 0 true).outcome = none ∧ (m.attemptFrom 0 true).answer = some false ∧ (m.attemptFrom 0 true).frames = []:=by
 obtain ⟨h1,h2,h3⟩:=hc
 have hf:m.hasFirstSet = true:=by
  unfold Sre.M.hasFirstSet
  rw [e1,h1,h2]; rfl
 obtain ⟨seen',e⟩:=admitted_none (m:=m) (by rw [e1,e2]; exact h) (by rw [e2,e3]; exact Nat.le_refl _) (m.lim + 1 - 0) 0 m.seen
 unfold Sre.M.attemptFrom
 rw [hf,e]
 exact ⟨e4,rfl,e5⟩
theorem search_none {code text:Array Nat} {g:Nat} (hc:SetCode code) (h:Clean code text) :
  (Sre.forSearch code text g 0 text.size false).outcome = none ∧ (Sre.forSearch code text g 0 text.size false).answer = some false ∧ (Sre.forSearch code text g 0 text.size false).frames = []:=by
 unfold Sre.forSearch
 dsimp only
 split
 ·exact ⟨rfl,rfl,rfl⟩
 ·exact attempt_none hc h _ rfl rfl rfl rfl rfl
theorem run_done {m:Sre.M} (h:m.outcome.isSome = true) (n:Nat):m.runFor n = m:=by
 cases n with
 | zero => rfl
 | succ n => exact if_pos h
theorem step_none {m:Sre.M} (h1:m.outcome = none) (h2:m.answer = some false) (h3:m.frames = []):m.step = { m with outcome:=some .failed }:=(if_neg (by rw [h1]; decide)).trans (by rw [h2,h3]; rfl)
theorem run_none {m:Sre.M} (h1:m.outcome = none) (h2:m.answer = some false) (h3:m.frames = []) (n:Nat):m.runFor (n + 1) = { m with outcome:=some .failed }:=(if_neg (by rw [h1]; decide)).trans ((congrArg (Sre.M.runFor n) (step_none h1 h2 h3)).trans (run_done rfl n))
theorem drive_none {m:Sre.M} (h1:m.outcome = none) (h2:m.answer = some false) (h3:m.frames = []) (n:Nat):reDrive (n + 1) m = pure { m with outcome:=some .failed }:=by
 show (if (m.runFor reTurnSteps).outcome.isSome = true then pure (m.runFor reTurnSteps) else _) = _
 have e:m.runFor reTurnSteps = _:=run_none h1 h2 h3 (reTurnSteps - 1)
 rw [e]
 exact if_pos rfl
theorem forIn_same {M:Model} {A:Around} {E:Value → Shared → Prop} {s:Shared} {f:Nat → PUnit → Sem (ForInStep PUnit)} (h:∀ i Q,Q (.yield ⟨⟩) s → wpAny M A (f i ⟨⟩) Q E s) (l:List Nat):∀ {Q:PUnit → Shared → Prop},Q ⟨⟩ s → wpAny M A (forIn l PUnit.unit f) Q E s:=by
 induction l with
 | nil => exact fun h => by rw [List.forIn_nil]; exact wpAny_pure h
 | cons x xs ih => exact fun q => by rw [List.forIn_cons]; exact wpAny_bind (h x _ (ih q))
theorem iteAny {α:Type} {M:Model} {A:Around} {E:Value → Shared → Prop} {s:Shared} {Q:α → Shared → Prop} {p:Prop} {_:Decidable p} {x y:Sem α} (h1:wpAny M A x Q E s) (h2:wpAny M A y Q E s):wpAny M A (if p then x else y) Q E s:=by
 by_cases q:p
 ·rw [if_pos q]; exact h1
 ·rw [if_neg q]; exact h2
theorem runToEnd_none {M:Model} {A:Around} {E:Value → Shared → Prop} {m:Sre.M} {s:Shared} {Q:Option Sre.M → Shared → Prop} (h1:m.outcome = none) (h2:m.answer = some false) (h3:m.frames = []) (hQ:Q none s):wpAny M A (reRunToEnd m) Q E s :=
 wpAny_bind (wpAny_of_eq (drive_none h1 h2 h3 18446744073709551615) (wpAny_bind (forIn_same (fun _ _ h => by
  apply iteAny
  ·refine wpAny_bind (wpAny_rule ?_)
   exact wpAny_pure h
  ·exact wpAny_pure h) _ (wpAny_pure hQ))))
structure PatOk (W:Wd) (p:Addr) (code:Array Nat):Prop where
 ex:∃ o fs T oT items n,W.h₀.get? p = some o ∧ o.cls = .type "re.Pattern" ∧ o.dict = none ∧ o.data = .fields fs ∧ reRawNat (fs.getD 6 .none) = 0 ∧ fs.getD 5 .none = .ref T ∧ W.h₀.get? T = some oT ∧ oT.data = .seq items n ∧ (items.map reRawOf).map (·.toNat) = code
 set:SetCode code
 clean:∀ ch,32 ≤ ch → ch < 127 → ∀ seen,∃ seen',Sre.inSet code ch code.size 5 true seen = .ok (false,seen')
noncomputable def calm (x:Str):Bool:=x.cps.all fun ch => decide (32 ≤ ch) && decide (ch < 127)
theorem clean_of {code:Array Nat} {x:Str} (h:∀ ch,32 ≤ ch → ch < 127 → ∀ seen,∃ seen',Sre.inSet code ch code.size 5 true seen = .ok (false,seen')) (hx:calm x = true):Clean code x.cps:=by
 intro s hs seen
 have:=Array.all_eq_true.mp hx s hs
 rw [Bool.and_eq_true] at this
 have e:x.cps.getD s 0 = x.cps[s]:=by simp [Array.getD,hs]
 rw [e]
 exact h _ (of_decide_eq_true this.1) (of_decide_eq_true this.2) seen
theorem search_entry {A:Around} {p:Addr} {code:Array Nat} {x:Str} {t:Tok} {s:Shared} {Q:Value → Shared → Prop} (P:PatOk W p code) (hk:∀ b o,W.h₀.get? b = some o → s.heap.get? b = some o) (hx:calm x = true) (hsz:x.cps.size ≤ sizeLine) (hQ:Q .none s) :
  wpAny (model W.prog W.w) A (call (.builtin "re.Pattern.search") [.ref p,.str x t]) Q (fun _ _ => False) s:=by
 obtain ⟨o,fs,T,oT,items,n,h1,h2,h3,h4,h5,h6,h7,h8,h9⟩:=P.ex
 have ho:=hk _ _ h1
 have hT:=hk _ _ h7
 refine wpAny_call_entry slot_search ⟨o,ho,h2⟩ entry_search ?_ (args_search _ _)
 unfold Builtin.«re.Pattern.search»
 refine wpAny_bind ?_
 unfold reTarget
 have hN:reNamed "re.Pattern.search" "search" ["string","pos","endpos"] 1 [.str x t] [] = pure [some (.str x t),none,none]:=by kernel_rfl
 refine wpAny_bind (wpAny_of_eq hN ?_)
 refine wpAny_bind (wpAny_pure (wpAny_bind (wpAny_pure ?_)))
 refine wpAny_bind ?_
 refine wpAny_bind (wpAny_load ho ?_)
 rw [h4]
 refine wpAny_pure ?_;refine wpAny_bind ?_
 refine wpAny_bind (wpAny_pure ?_)
 refine wpAny_pure ?_
 dsimp only
 rw [h5]
 refine wpAny_bind ?_;refine wpAny_pure ?_;refine wpAny_bind ?_
 rw [h6]
 refine wpAny_bind (wpAny_bind (wpAny_bind (wpAny_load hT ?_)))
 refine wpAny_pure ?_
 rw [h8]
 refine wpAny_pure (wpAny_pure (wpAny_pure ?_))
 dsimp only
 have el:Min.min (2 ^ 63 - 1:Int).toNat x.cps.size = x.cps.size:=by
  have:sizeLine = 16777216:=sizeLine_eq
  have h2:((2 ^ 63 - 1:Int).toNat) = 9223372036854775807:=rfl
  rw [h2]
  lia
 have ep:Min.min (Int.toNat 0) x.cps.size = 0:=by
  show Min.min 0 _ = 0
  lia
 have ec:Array.map (fun x => x.toNat) ((some items).getD #[] |>.map reRawOf) = code:=h9
 unfold reAnswer
 dsimp only
 rw [el,ep,ec]
 obtain ⟨r1,r2,r3⟩:=search_none (g:=reRawNat (fs.getD 2 Value.none)) P.set (clean_of P.clean hx)
 refine wpAny_bind (runToEnd_none r1 r2 r3 ?_)
 exact wpAny_pure ⟨.none,rfl,hQ⟩
noncomputable def bSearch (pats:List Addr):BF:=p2 (fun a => a.c?.bind rf?) AV.s? fun p x => if pats.contains p = true ∧ calm x = true ∧ x.cps.size ≤ sizeLine then some .none else Option.none
theorem search_ok {d:Nat} {pats:List Addr} (hp:∀ p ∈ pats,∃ code,PatOk W p code):Fn W d (.builtin "re.Pattern.search") (runF (bSearch pats)):=by
 refine Fn.p2 rRef rStr fun A c hid vs ob s as Q p x u v z hA e R hu hv hQ => ?_
 obtain ⟨⟨hm,hx,hsz⟩,rfl⟩:=ifS e
 obtain ⟨code,P⟩:=hp p (List.contains_iff_mem.mp hm)
 obtain ⟨tk,rfl⟩:=hv
 subst hu
 exact search_entry P R.base.sub hx hsz (hQ _ s.heap s.toks (fun _ _ e => e) .none)
theorem mf_search:MF "re.Pattern" "search" "re.Pattern.search":=⟨⟨by first | exact ⟨"object.__getattribute__",by rw [typeLookup_type,builtinLookup_eq_fast]; kernel_rfl,by decide +kernel⟩ | exact ⟨"re.Pattern.__getattribute__",by rw [typeLookup_type,builtinLookup_eq_fast]; kernel_rfl,by decide +kernel⟩,by rw [typeLookup_type,builtinLookup_eq_fast]; kernel_rfl⟩,slot_search,type_search⟩
end
section
variable {W:Wd} {c:Cx} {hid:List Addr}
noncomputable def ClsAttr (W:Wd) (C:Addr) (name:Str) (v:Value):Prop :=
 ∀ (A:Around) (s:Shared) (expr:Bool) (Q:Value → Shared → Prop),(∀ b o,W.h₀.get? b = some o → s.heap.get? b = some o) → Q v { s with toks:=s.toks + 1 } → wpAny (model W.prog W.w) A (getAttr (.ref C) name expr) Q (fun _ _ => False) s
theorem ClsAttr.of {K:Frag} {C:Addr} {mc v:Value} {name:Str} (X:K.In W.h₀) (hr:readsIn K C mc = true) (e:findCls K (.ref C) mc name = some (.val v)) (hh:handedIn v = true):ClsAttr W C name v :=
 fun _ _ _ _ hk hQ => cls_value (X.keeps hk) hr e hh hQ
theorem E.cattr {value:Expr} {name:Str} {pos:Pos} {Tv:TE} (hv:E W c value Tv) (hb:isBareCall value = false) :
  E W c (.Attribute value name pos) (fun vs ob k => Tv vs ob fun a ob₁ => ∃ C v av,a = .cst (.ref C) ∧ ClsAttr W C name v ∧ (∀ G,TV G av v) ∧ k av ob₁):=by
 intro A hid vs ob k s as Q hA ht R hQ
 refine Attribute_any hb (hv A hid vs ob _ s as _ hA ht R fun v h₁ t₁ a ob₁ as₁ hk R₁ hv₁ kp ex => ?_)
 obtain ⟨C,u,av,rfl,hC,ha,hk⟩:=hk
 have hv':TV _ (.cst (.ref C)) v:=hv₁
 cases hv'
 exact hC A _ true Q R₁.base.sub (hQ u h₁ (t₁ + 1) av ob₁ as₁ hk R₁ (VV.of (ha _)) kp ex)
structure DictOk (W:Wd) (d:Addr) (m:Int → Option Str):Prop where
 sys:(d == sysModules) = false
 ex:∃ f,W.h₀.MapOf (intKind W.prog W.w) d f ∧ ∀ k,match m k with | some x => ∃ t,f k = some (.str x t) | none => f k = none
noncomputable def bDictGet (d:Addr) (m:Int → Option Str):BF:=m3 fun a b y ob => (a.c?.bind rf?).bind fun p => b.i?.bind fun k => if p = d ∧ y.tree = true then some ((m k).elim y .str,ob) else Option.none
theorem VVs.three {C} {G:GP} {as:AS} {x y z us} (h:VVs C G as [x,y,z] us):∃ u v w,us = [u,v,w] ∧ VV C G as x u ∧ VV C G as y v ∧ VV C G as z w:=by
 cases h with | cons a h => obtain ⟨v,w,rfl,b,c⟩:=h.two; exact ⟨_,v,w,rfl,a,b,c⟩
theorem dictGet_ok {n:Nat} {d:Addr} {m:Int → Option Str} (D:DictOk W d m):Fn W n (.builtin "dict.get") (runF (bDictGet d m)):=by
 refine Fn.tree fun A c hid vs ob s as Q avs us r ob' hA e R hv => ?_
 obtain ⟨a,b,y,rfl,e⟩:=m3E e
 obtain ⟨u,v,z,rfl,t,t',t''⟩:=hv.three
 refine bindE e fun p ep e => bindE e fun k ek e => ?_
 obtain ⟨⟨rfl,hy⟩,e2⟩:=ifS e
 obtain ⟨rfl,rfl⟩:=Prod.mk.inj e2
 refine ⟨rfl,fun hQ => ?_⟩
 obtain ⟨tk,rfl⟩:=rInt ek t'
 obtain rfl:=rRef ep t
 obtain ⟨f,hm,hf⟩:=D.ex
 have hm':s.heap.MapOf (intKind W.prog W.w) p f:=by obtain ⟨o,es,ep,ho,r⟩:=hm; exact ⟨o,es,ep,R.base.sub _ _ ho,r⟩
 refine call_meetsIn PySem.F.slot_dict_get hm'.typeIs PySem.F.entry_dict_get (PySem.F.args_dict_get_3 _ _ _) (meets_dict_get_default (intKind W.prog W.w) p (by show Value.isInt k (.int k tk) = true; simp [Value.isInt]) D.sys z) ⟨f,hm',?_⟩
 have hfk:=hf k
 cases q:m k with
 | some x =>
  rw [q] at hfk
  obtain ⟨t,e⟩:=hfk
  rw [e]
  exact hQ _ s.heap _ (fun _ _ e => e) (by rw [q]; exact .str x t)
 | none =>
  rw [q] at hfk
  rw [hfk]
  exact hQ _ s.heap _ (fun _ _ e => e) (by rw [q]; exact t''.tree hy)
theorem mf_dictGet:MF "dict" "get" "dict.get":=⟨PySem.F.plainAttrs_dict,PySem.F.slot_dict_get,PySem.F.type_dict_get⟩
end
section
variable {W:Wd} {c:Cx} {hid:List Addr}
theorem Rel.ofKp {vs:VS} {ob as h h'} (R:Rel W c hid vs ob as h) (k:Kp W [] h h') (B:Base W (c.av hid as) h'):Rel W c hid vs ob as h' :=
 ⟨R.ok,B,R.nodup,R.varsStep (k.more fun _ ha => nomatch ha) .refl,R.objs.1,R.objs.kp k (fun _ ha => nomatch ha) (fun _ _ ha => nomatch ha) (fun a ha => (R.base.dis a (mem_av_live ha)).2.2) .refl (fun _ _ e => e) fun _ ha => .inl (mem_av_oh ha)⟩
theorem none_of_le {h:Heap} {a:Addr} (e:h.objs.size ≤ a):h.get? a = Option.none:=nI fun q => absurd (Heap.lt_size (Option.isSome_iff_exists.mp q).choose_spec) (Nat.not_lt_of_le e)
theorem codeHd_at {h h':Heap} {c P:Addr} (x:CodeHd h c P) (g:∀ o,h.get? c = some o → h'.get? c = some o):CodeHd h' c P:=by
 obtain ⟨o,vs,file,tf,flags,tg,inF,text,tt,e,r⟩:=x
 exact ⟨o,vs,file,tf,flags,tg,inF,text,tt,g o e,r⟩
theorem map_inj {α β:Type} {f:α → β} {l:List α} (hn:(l.map f).Nodup) {a b:α} (ha:a ∈ l) (hb:b ∈ l) (e:f a = f b):a = b:=by
 induction l with
 | nil => cases ha
 | cons x l ih =>
  rw [List.map_cons,List.nodup_cons] at hn
  rcases List.mem_cons.mp ha with q | ha <;> rcases List.mem_cons.mp hb with q' | hb
  ·exact q.trans q'.symm
  ·exact (hn.1 (by rw [← q,e]; exact List.mem_map_of_mem hb)).elim
  ·exact (hn.1 (by rw [← q',← e]; exact List.mem_map_of_mem ha)).elim
  ·exact ih hn.2 ha hb
theorem tbHd {pr:List Addr} {h:Heap} {t:Tb} (x:TbOk W.h₀ pr h t):CodeHd h t.c t.P ∧ ((h.get? t.P = some (tabObj #[])) ∨ ∃ c',c' ∈ pr ∧ h.get? t.P = some (tabObj #[rawInt t.l,rawInt t.k,.ref c']) ∧ h.CodeRec (.ref c') t.q):=by
 rcases x.2 with ⟨i,ta⟩ | ⟨c',hc',i,ta,r⟩
 ·exact ⟨CodeHd.of i ta,.inl ta.2⟩
 ·exact ⟨CodeHd.of i ta,.inr ⟨c',hc',ta.2,r⟩⟩
noncomputable def closL (cells:List (Str × Addr)) (names:List (Str × NameKind)):List (Str × Addr):=(names.filter fun p => p.2 == .free).reverse.map fun p => (p.1,(cells.lookup p.1).getD 0)
noncomputable def cloC (cells:List (Str × Addr)) (qual:Str) (pm:Value):CP:=fun i o c' oc =>
 o.cls = .type "function" ∧ (∃ doc ctv,o.data = .func (fnX i.name qual i.params i.body i.scope (closL cells i.scope.names) .none .none doc pm none (.ref c') ctv)) ∧ ∃ vs t,oc.data = .fields vs ∧ vs[1]? = some (.str qual t)
theorem S.def {name:Str} {params:Arguments} {body:List Stmt} {scope:Scope} {pos:Pos} {i:Nat} {t:Tb} (ht:t ∈ W.tbs) (hnd:W.tP.Nodup) (hcode:c.env.code = .ref t.c) (hl:t.l = pos.line) (hk:t.k = pos.col) (hq:qualnameIn c.env name name = t.q)
  (hd0:params.defaults = []) (hk0:params.kw_defaults = []) (ha:annTrees params none c.env = []) (hcl:closureFor scope c.env = pure (closL c.env.cells scope.names)) (hb:W.h₀.BuiltinsAt W.mg t.P) (hx:St W c name i)
  (hC:c.isclo = cloC c.env.cells t.q ((W.mg "__name__").getD .none)) :
  S W c (.FunctionDef name params body [] none [] scope none name pos) (fun vs ob k => k .next (setV vs i (.clo ⟨name,params,body,scope⟩)) ob):=by
 intro A hid vs ob k s as Q hA hT R hQ
 refine nestDef_K hd0 hk0 ha ?_
 rw [hq]
 obtain ⟨pr,p1,p2,p3⟩:=R.base.inv
 obtain ⟨C,tab⟩:=tbHd (p3 t ht)
 have hg:=W.g.keeps R.base.sub
 have hb':=hb.keeps R.base.sub
 have tP0:W.h₀.get? t.P = Option.none:=W.tbo t ht
 have hgP:mainGlobals ≠ t.P:=fun e => by
  obtain ⟨o,_,_,eo,_⟩:=W.g
  rw [← e,eo] at tP0; cases tP0
 -- behind the making
 have fin:∀ (f c':Addr) (h':Heap) (tk:Nat) (o oc:Obj),Kp W [] s.heap h' → Base W (c.av hid as) h' → h'.get? f = some o → s.heap.get? f = Option.none → f ∉ W.tP → h'.get? c' = some oc → c' ∉ c.av hid as → c' ∉ W.tP → c.isclo ⟨name,params,body,scope⟩ o c' oc →
   wpAny (model W.prog W.w) A (storeName c.env name (.ref f)) (fun _ s'' => Q .next s'') (fun _ _ => False) { s with heap:=h',toks:=tk }:=by
  intro f c' h' tk o oc kp B hf hfn hft hc hca hct hcl
  have R':=R.ofKp kp B
  have hfa:f ∉ c.av hid as:=fun hm => by have:=(R.base.dis f hm).2.1; (first | exact noO hfn this | exact noI hfn this | (rw [hfn] at this; cases this))
  refine hx A hid vs ob { s with heap:=h',toks:=tk } as _ (.clo ⟨name,params,body,scope⟩) (.ref f) R' ⟨f,o,c',oc,rfl,⟨hf,hfa,hft⟩,⟨hc,hca,hct⟩,hcl⟩ fun h₂ t₂ R₂ k₂ g₂ => ?_
  exact hQ .next h₂ t₂ .next _ ob as hT R₂ rfl (Kp.trans (kp.more fun _ ha => nomatch ha) (k₂.more fun a ha => .inl (List.mem_append_left _ ha)) fun a ha => .inl ha) .refl
 have notP:∀ {h':Heap} {a:Addr},s.heap.get? a = Option.none → a ∉ W.tP:=fun {h'} {a} e hm => by
  obtain ⟨u,hu,rfl⟩:=List.mem_map.mp hm
  obtain ⟨Cu,tu⟩:=tbHd (p3 u hu)
  rcases tu with z | ⟨_,_,z,_⟩ <;> ((first | exact noO z e | exact noI z e | (rw [z] at e; cases e)))
 rcases tab with hP | ⟨c',hc',hP,hrec⟩
 ·refine makeFunction_K hcl R.ok.glob hg hcode C hP trivial rfl hgP hb' fun c' ctv doc h' tk hx' hge hlt hrec hP' => ?_
  generalize hF:fnMade name t.q params body scope (closL c.env.cells scope.names) doc ((W.mg "__name__").getD .none) c' ctv = F
  have hx'':∀ b o,b ≠ t.P → s.heap.get? b = some o → h'.get? b = some o:=hx'
  have g₂:∀ (o:Obj) b o',h'.get? b = some o' → (h'.push o).get? b = some o':=fun o => push_grow _ _
  have hcn:s.heap.get? c' = Option.none:=none_of_le hge
  have hPs:(h'.get? t.P).isSome = true:=by rw [hP']; rfl
  have kp:Kp W [] s.heap (h'.push F):=⟨fun b o' _ hb e => g₂ F b o' (hx'' b o' (fun q => hb (q ▸ mem_tP ht)) e),fun b e => by
   by_cases q:b = t.P
   ·rw [q]; exact isSome_of (g₂ F _) hPs
   ·exact isSome_of (fun o' z => g₂ F _ _ (hx'' b o' q z)) e⟩
  obtain ⟨c₂,oc,vs',tq,ec,hoc,hd,h1⟩:=hrec
  cases ec
  have hfn:s.heap.get? h'.objs.size = Option.none:=none_of_le (Nat.le_trans hge (Nat.le_of_lt hlt))
  refine fin h'.objs.size c' _ tk _ oc kp ?_ (Heap.get?_push_size _ (by rw [← hF]; rfl)) hfn (notP (h':=h') hfn) (g₂ _ _ _ hoc) (fun hm => by have:=(R.base.dis c' hm).2.1; (first | exact noO hcn this | exact noI hcn this | (rw [hcn] at this; cases this))) (notP (h':=h') hcn) ?_
  ·refine ⟨fun b o e => g₂ _ _ _ (hx'' b o (fun q => by rw [q,tP0] at e; cases e) (R.base.sub b o e)),fun a ha => ⟨(R.base.dis a ha).1,kp.2 a (R.base.dis a ha).2.1,(R.base.dis a ha).2.2⟩,c' :: pr,fun a ha hm => ?_,fun a hm => ?_,fun u hu => ⟨(p3 u hu).1,?_⟩⟩
   ·rcases List.mem_cons.mp hm with rfl | hm
    ·have:=(R.base.dis a ha).2.1; (first | exact noO hcn this | exact noI hcn this | (rw [hcn] at this; cases this))
    ·exact p1 a ha hm
   ·rcases List.mem_cons.mp hm with rfl | hm
    ·exact ⟨notP (h':=h') hcn,by rw [g₂ _ _ _ hoc]; rfl⟩
    ·exact ⟨(p2 a hm).1,kp.2 a (p2 a hm).2⟩
   ·have cu:∀ o,s.heap.get? u.c = some o → (h'.push F).get? u.c = some o:=fun o e => g₂ _ _ _ (hx'' u.c o (fun q => by
     have z:=(p3 u hu).1
     rw [q,tP0] at z; cases z) e)
    by_cases hut:u = t
    ·subst hut
     have C':CodeHd (h'.push F) u.c u.P:=codeHd_at C cu
     have hP2:=g₂ F _ _ hP'
     rw [← hl,← hk] at hP2
     exact .inr ⟨c',List.mem_cons_self ..,C'.code hP2 trivial,C'.tab hP2,⟨c',oc,vs',tq,rfl,g₂ _ _ _ hoc,hd,h1⟩⟩
    ·have hne:u.P ≠ t.P:=fun e => hut (map_inj hnd hu ht e)
     have cP:∀ o,s.heap.get? u.P = some o → (h'.push F).get? u.P = some o:=fun o e => g₂ _ _ _ (hx'' u.P o hne e)
     exact ((p3 u hu).at cu cP fun c'' m => ⟨List.mem_cons_of_mem _ m,fun o e => g₂ _ _ _ (hx'' c'' o (fun q => (p2 c'' m).1 (q ▸ mem_tP ht)) e)⟩).2
  ·rw [hC,← hF]
   exact ⟨rfl,⟨doc,ctv,rfl⟩,vs',tq,hd,h1⟩
 ·have hf:codeAmong pos (#[rawInt t.l,rawInt t.k,Value.ref c']:Array Value).toList = some (.ref c'):=by
   rw [hl,hk]
   simp [codeAmong,rawInt]
  refine makeFunction_hit hcl R.ok.glob hg hcode C hP trivial hf hb' fun ctv doc h' tk g hsz => ?_
  have g₂:∀ (o:Obj) b o',h'.get? b = some o' → (h'.push o).get? b = some o':=fun o => push_grow _ _
  have gg:∀ (o:Obj) b o',s.heap.get? b = some o' → (h'.push o).get? b = some o':=fun o b o' e => g₂ o b o' (g b o' e)
  have hfn:s.heap.get? h'.objs.size = Option.none:=none_of_le hsz
  obtain ⟨c₂,oc,vs',tq,ec,hoc,hd,h1⟩:=hrec
  cases ec
  refine fin h'.objs.size c' _ tk _ oc (Kp.grow (gg _) _) ((R.grow (gg _)).base) (Heap.get?_push_size _ rfl) hfn (notP (h':=h') hfn) (gg _ _ _ hoc) (fun hm => p1 c' hm hc') (p2 c' hc').1 ?_
  rw [hC]
  exact ⟨rfl,⟨doc,ctv,rfl⟩,vs',tq,hd,h1⟩
end
section
variable {W:Wd} {c:Cx} {hid:List Addr}
structure CloOk (W:Wd) (c:Cx) (d:Nat) (name qual:Str) (params:Arguments) (body:List Stmt) (scope:Scope) (clos cells₀:List (Str × Addr)) (ps:List Str) (is:List Nat) (T:TS) (vs0:VS → VS):Prop where
 hC:c.isclo = cloC cells₀ qual ((W.mg "__name__").getD .none)
 hcs:clos = closL cells₀ scope.names
 hco:scope.isCoroutine = false
 hgen:scope.isGenerator = false
 hk:scope.kind = .function
 hnd:(scope.names.map (·.1)).Nodup
 hcl:∀ x cc,clos.lookup x = some cc → c.env.cells.lookup x = some cc
 hfree:∀ x,(clos.lookup x).isSome = true → (x,NameKind.free) ∈ scope.names
 hv0:∀ vs i x k av,scope.names[i]? = some (x,k) → getV (vs0 vs) i = some av → (clos.lookup x).isSome = true ∧ k = .free ∧ ∃ j kk,c.env.scope.names[j]? = some (x,kk) ∧ (kk = .cell ∨ kk = .free) ∧ getV vs j = some av
 hbind:∀ doc ctv c' (us:List Value),us.length = ps.length → bindArgs (fnX name qual params body scope clos .none .none doc ((W.mg "__name__").getD .none) none c' ctv) ⟨us,[]⟩ = pure (ps.zip us)
 hB:∀ f L doc ctv c',Binds W (funCx (fnX name qual params body scope clos .none .none doc ((W.mg "__name__").getD .none) none c' ctv) f L d c.isclo) ps is
 hS:∀ f L doc ctv c',Ss W (funCx (fnX name qual params body scope clos .none .none doc ((W.mg "__name__").getD .none) none c' ctv) f L d c.isclo) body T
theorem cloEnter {d:Nat} {name qual:Str} {params:Arguments} {body:List Stmt} {scope:Scope} {clos cells₀:List (Str × Addr)} {ps:List Str} {is:List Nat} {T:TS} {vs0:VS → VS} (H:CloOk W c d name qual params body scope clos cells₀ ps is T vs0)
  {A:Around} {vs:VS} {ob:OB} {as:AS} {s:Shared} {us:List Value} {avs:List AV} {RR:Result → Shared → Prop} {f c':Addr} {o oc:Obj} {doc ctv:Value} (hA:OkA (d + 1) A) (R:Rel W c hid vs ob as s.heap) (hf:s.heap.get? f = some o)
  (hd:o.data = .func (fnX name qual params body scope clos .none .none doc ((W.mg "__name__").getD .none) none (.ref c') ctv)) (hc:s.heap.get? c' = some oc) (hcr:∃ vs t,oc.data = .fields vs ∧ vs[1]? = some (.str qual t))
  (hl:us.length = ps.length) (hv:VVs c.isclo (Gh W s.heap (c.av hid as)) as avs us)
  (hQ:∀ (L:Addr) (h:Heap) (tk:Nat),Rel W (funCx (fnX name qual params body scope clos .none .none doc ((W.mg "__name__").getD .none) none (.ref c') ctv) f L d c.isclo) (c.own ++ hid) (setVs (vs0 vs) is avs) ob as h →
   (∀ b ∈ (funCx (fnX name qual params body scope clos .none .none doc ((W.mg "__name__").getD .none) none (.ref c') ctv) f L d c.isclo).own,s.heap.get? b = Option.none) → (∀ b o,s.heap.get? b = some o → h.get? b = some o) →
   wpAny (model W.prog W.w) (A.deeper (funCx (fnX name qual params body scope clos .none .none doc ((W.mg "__name__").getD .none) none (.ref c') ctv) f L d c.isclo).env) (execs body (funCx (fnX name qual params body scope clos .none .none doc ((W.mg "__name__").getD .none) none (.ref c') ctv) f L d c.isclo).env)
    (fun f s' => RR (.ok (.ret (match f with | .ret v => v | _ => .none))) s') (fun _ _ => False) { s with heap:=h,toks:=tk }) :
  codeAny (model W.prog W.w) A (.call (.ref f) ⟨us,[]⟩) RR s:=by
 generalize efd:fnX name qual params body scope clos .none .none doc ((W.mg "__name__").getD .none) none (.ref c') ctv = fd at hd hQ
 have es:fd.scope = scope:=by rw [← efd]
 have ecl:fd.closure = clos:=by rw [← efd]
 have ebind:bindArgs fd ⟨us,[]⟩ = pure (ps.zip us):=by rw [← efd]; exact H.hbind _ _ _ us hl
 have eB:∀ L,Binds W (funCx fd f L d c.isclo) ps is:=fun L => by rw [← efd]; exact H.hB _ _ _ _ _
 have hcode:s.heap.CodeRec fd.code fd.qualname:=by
  obtain ⟨vs',t,e1,e2⟩:=hcr
  rw [← efd]
  exact ⟨c',oc,vs',t,rfl,hc,e1,e2⟩
 refine codeAny_call_function (by have:=hA.2.1; lia) hf hd (by rw [es]; exact H.hco) (by rw [es]; exact H.hgen) (body:=body) (by rw [← efd]) hcode (BindsTo.of_eq ebind _ _ _ _ ?_)
 simp only [newFunctionEnv,Option.isSome_none,Bool.false_eq_true,if_false]
 refine wpAny_bind (wpAny_alloc ?_)
 refine wpAny_bind (wpAny_layCells _ (fun name kind cells => by cases hkc:kind == NameKind.cell <;> simp [hkc]) _ _ _ _ ?_)
 rw [show ({ s with heap:=s.heap.push { cls:=.type "frame",data:=.dict #[] } }:Shared).heap.objs.size = s.heap.objs.size + 1 from Heap.size_push ..]
 have N:Enter (funCx fd f s.heap.objs.size d c.isclo) s.heap fd.scope.names clos { cls:=.type "frame",data:=.dict #[] }:=by
  refine ⟨by rw [← H.hk,← es]; rfl,by rw [← efd]; rfl,by rw [← efd]; rfl,rfl,?_,rfl,by rw [← es] at H; exact H.hnd,rfl,by rw [← es] at H; exact H.hnd⟩
  show cellsFrom (s.heap.objs.size + 1) fd.scope.names fd.closure = _
  rw [ecl,cellsFrom_app]
 obtain ⟨R₁,g₁,hn⟩:=R.enter (vs₀:=vs0 vs) N (fun x cc e => ⟨R.ok.cells x cc (H.hcl x cc e),R.vars.1 x cc (H.hcl x cc e)⟩) (fun x y cc e e' => R.ok.cinj x y cc (H.hcl x cc e) (H.hcl y cc e')) fun i x k av e1 e2 => by
  have e1':scope.names[i]? = some (x,k):=by rw [← es]; exact e1
  obtain ⟨hs,hk,j,kk,e3,e4,e5⟩:=H.hv0 vs i x k av e1' e2
  obtain ⟨_,m,hm,hvv⟩:=R.vars
  obtain ⟨v,hs',hv'⟩:=hvv j x kk av e3 e5
  obtain ⟨cc,ecc⟩:=Option.isSome_iff_exists.mp hs
  refine ⟨.inl hk,by rw [es]; exact H.hfree x hs,cc,v,ecc,?_,hv'⟩
  have e6:=H.hcl x cc ecc
  unfold SlotIs at hs'
  rcases e4 with rfl | rfl <;> (obtain ⟨cc',e7,ic⟩:=hs'; rw [e6] at e7; cases e7; exact ic)
 have hv₁:VVs c.isclo (Gh W _ ((funCx fd f s.heap.objs.size d c.isclo).av (c.own ++ hid) as)) as avs us:=VVs.kp (c:=c) (hid:=hid) (l:=[]) (Kp.grow g₁ []) (fun _ ha => nomatch ha) .refl (fun b hb => (List.mem_append.mp hb).elim (fun q => .inr (hn b q)) fun q => .inl (mem_av_oh q)) hv
 refine wpAny_bind (wpAny_mono (storeBinds (c:=funCx fd f s.heap.objs.size d c.isclo) (hid:=c.own ++ hid) (s:={ s with heap:=pushCells (s.heap.push { cls:=.type "frame",data:=.dict #[] }) fd.scope.names }) _ (fun _ _ _ => rfl) (eB s.heap.objs.size) R₁ hv₁ hl fun h₂ t₂ R₂ k₂ keep₂ => ?_) (fun _ _ q => q) fun _ _ f => f.elim)
 have g₂:∀ b o,s.heap.get? b = some o → h₂.get? b = some o:=fun b o e => keep₂ b o (fun q => by rw [hn b q] at e; cases e) (g₁ b o e)
 exact wpAny_pure ⟨W.lim.keeps fun b o e => g₂ b o (R.base.sub b o e),codeAny_func (wpAny_mono (hQ _ h₂ t₂ R₂ hn g₂) (fun _ _ q => q) fun _ _ f => f.elim)⟩
theorem E.callClo {x:Str} {p pos:Pos} {e:Expr} {rest:List Expr} {Tf:TE} {Ta:TEs}
  (hf:E W c (.Name x p) Tf) (ha:Es W c (e :: rest) Ta) (he:starEach (e :: rest) c.env = (false,eval e c.env) :: starEach rest c.env) :
  E W c (.Call (.Name x p) (e :: rest) [] pos) (fun vs ob k => Tf vs ob fun a ob₁ => ∃ ci d qual clos cells₀ ps is T vs0,a = .clo ci ∧ CloOk W c d ci.name qual ci.params ci.body ci.scope clos cells₀ ps is T vs0 ∧ d + 1 ≤ c.d ∧ Ta vs ob₁ fun avs ob₂ => avs.length = ps.length ∧ T (setVs (vs0 vs) is avs) ob₂ (retS k)):=by
 intro A hid vs ob k s as Q hA ht R hQ
 refine Call_Name (p:=p) rfl (hf A hid vs ob _ s as _ hA ht R fun v h₁ t₁ a ob₁ as₁ hk₁ R₁ hv₁ kp₁ ex₁ => ?_)
 obtain ⟨ci,d,qual,clos,cells₀,ps,is,T,vs0,rfl,H,hd,hk₁⟩:=hk₁
 obtain ⟨f,o,c',oc,rfl,gf,gc,hcl⟩:=id hv₁
 rw [H.hC] at hcl
 obtain ⟨hcls,⟨doc,ctv,hdat⟩,hrec⟩:=hcl
 rw [← H.hcs] at hdat
 have args:=ha A hid vs ob₁ _ { s with heap:=h₁,toks:=t₁ } as₁ pos (fun us s₂ => s₂.heap.get? f = some o ∧ wpAny (model W.prog W.w) A (PySem.call (.ref f) us) Q (fun _ _ => False) s₂) hA hk₁ R₁ fun us h₂ t₂ avs ob₂ as₂ hk₂ R₂ hvs kp₂ ex₂ => by
  obtain ⟨hl,hT⟩:=hk₂
  have up:∀ a o,Gh W h₁ (c.av hid as₁) a o → h₂.get? a = some o:=fun a o ⟨e,h1,h2⟩ => kp₂.1 a o (fun hm => h1 (mem_av_live hm)) h2 e
  refine ⟨up _ _ gf,wpAny_call (cloEnter H (s:={ s with heap:=h₂,toks:=t₂ }) (hA.le hd) R₂ (up _ _ gf) hdat (up _ _ gc) hrec (by rw [← hvs.length]; exact hl) hvs fun L h t R₃ hn g => ?_)⟩
  refine H.hS f L doc ctv (.ref c') (A.deeper _) _ _ ob₂ _ { s with heap:=h,toks:=t } as₂ _ (okA_deeper (hA.le hd)) hT R₃ fun fl h₄ t₄ afl vs₄ ob₄ as₄ hk₄ R₄ hf₄ kw₄ ex₄ => ?_
  have kp₄:Kp W (live as₂) h₂ h₄:=Kp.trans (Kp.grow g _) kw₄ fun b hb => (List.mem_append.mp hb).elim (fun q => .inr (hn b q)) .inl
  have ex₄':Ex h₂ as₂ as₄:=Ex.refl.trans (Kp.grow (W:=W) g []) ex₄
  obtain ⟨R₅,up₅⟩:=R₂.leave R₄ kp₄ ex₄' fun _ _ _ e => e
  have kp₀:=kp₁.trans kp₂ ex₁.live
  have ex₀:=ex₁.trans kp₁ ex₂
  cases afl with
  | next => cases hf₄; exact hQ .none h₄ t₄ .none ob₄ as₄ hk₄ R₅ TV.none (kp₀.trans kp₄ ex₀.live) (ex₀.trans kp₀ ex₄')
  | ret av =>
   obtain ⟨v,rfl,hv₄⟩:=hf₄
   exact hQ v h₄ t₄ av ob₄ as₄ hk₄.2 R₅ ((hv₄.mono up₅).other hk₄.1) (kp₀.trans kp₄ ex₀.live) (ex₀.trans kp₀ ex₄')
  | brk => exact hk₄.elim
  | cont => exact hk₄.elim
 exact callWith_def (o:=o) hdat args he
end
section
variable {W:Wd} {c:Cx} {hid:List Addr}
theorem Is.isNone {op:CmpOp} {l:Expr} {kk:Nat} {p pos:Pos} {Tl:TE} (hl:E W c l Tl) :
  Is W c (.Compare l [op] [.Constant .none kk p] pos) (fun vs ob k => Tl vs ob fun a ob₁ => (∃ j,a = .loc j) ∧ ((op = .Is ∧ k false ob₁) ∨ (op = .IsNot ∧ k true ob₁))):=by
 intro A hid vs ob k s as Q hA ht R hQ
 refine wpAny_isTrue_Compare1 (hl A hid vs ob _ s as _ hA ht R fun va h₁ t₁ a ob₁ as₁ ht₁ R₁ hva kp₁ ex₁ => ?_) rfl
 refine wpAny_Constant_none ?_
 obtain ⟨⟨j,rfl⟩,hk⟩:=ht₁
 obtain ⟨r,b,rfl,_⟩:=hva
 rcases hk with ⟨rfl,hk⟩ | ⟨rfl,hk⟩
 ·exact wpAny_is_plain rfl (wpAny_truthy_bool (hQ _ h₁ t₁ ob₁ as₁ hk R₁ kp₁ ex₁))
 ·exact wpAny_isNot_plain rfl (wpAny_truthy_bool (hQ _ h₁ t₁ ob₁ as₁ hk R₁ kp₁ ex₁))
noncomputable def mop (op:Operator) (a b:AV):Option (List AV) :=
 if op = .Add then a.l?.bind fun xs => b.l?.bind fun ys => if xs.length + ys.length ≤ sizeLine then some (xs ++ ys) else none
 else if op = .Mult then a.l?.bind fun xs => b.i?.bind fun n => if xs.isEmpty = false ∧ n < 2 ^ 63 ∧ -(2 ^ 63) ≤ n ∧ xs.length * n.toNat ≤ sizeLine then some (List.replicate n.toNat xs).flatten else none
 else none
theorem mop_ok (op:Operator) {A:Around} {a b:AV} {va vb:Value} {zs:List AV} {s:Shared} {av:List Addr} {Q:Value → Shared → Prop} (hf:mop op a b = some zs) (ha:TV (Gh W s.heap av) a va) (hb:TV (Gh W s.heap av) b vb)
  (hQ:∀ us n tk,TVs (Gh W s.heap av) zs us → Q (.ref s.heap.objs.size) { s with heap:=s.heap.push (lstO us n),toks:=tk }):wpAny (model W.prog W.w) A (binaryOp op va vb) Q (fun _ _ => False) s:=by
 unfold mop at hf
 by_cases h1:op = .Add
 ·rw [if_pos h1] at hf
  subst h1
  refine bindE hf fun xs ex hf => bindE hf fun ys ey hf => ?_
  obtain ⟨hsz,rfl⟩:=ifS hf
  obtain ⟨vs,l,n,rfl,g,hvs⟩:=VV.lst (C:=noC) (as:=[]) (AV.lI ex ▸ ha)
  obtain ⟨us,b,m,rfl,g',hus⟩:=VV.lst (C:=noC) (as:=[]) (AV.lI ey ▸ hb)
  have e:vs.toArray ++ us.toArray = (vs ++ us).toArray:=by simp
  refine concat_meets ⟨_,g.1,rfl⟩ ⟨_,g'.1,rfl⟩ noFill_list_add seq_list_add PySem.F.slot_list_add PySem.F.entry_list_add (PySem.F.args_list_add_2 _ _) (list_addW l b vs.toArray us.toArray n m none none #[] #[] (by simpa [← hvs.length,← hus.length] using hsz)) ⟨g.1,g'.1,?_⟩
  rw [e]
  exact hQ _ 0 _ (hvs.append hus)
 ·rw [if_neg h1] at hf
  obtain ⟨rfl,hf⟩:=ifT hf
  refine bindE hf fun xs ex hf => bindE hf fun nn en hf => ?_
  obtain ⟨⟨hne,h1,h2,h3⟩,rfl⟩:=ifS hf
  obtain ⟨vs,l,n,rfl,g,hvs⟩:=VV.lst (C:=noC) (as:=[]) (AV.lI ex ▸ ha)
  obtain ⟨tk,rfl⟩:=VV.int (C:=noC) (as:=[]) (AV.iI en ▸ hb)
  have hsz:vs.toArray.size * nn.toNat ≤ 2 ^ 24:=by rw [List.size_toArray,← hvs.length]; exact h3
  refine wpAny_binaryOp_repeat_ref (T:="list") (U:="int") (by decide) ⟨_,g.1,rfl⟩ (fun s' => typeIs_int s' _ _) noFill_list_mul F.fills_int_mul F.slot_int_rmul repeat_list F.slot_int_index.lookup
   (call_meets F.slot_int_rmul (typeIs_int s _ _) F.entry_int_rmul (F.args_int_rmul_2 _ _) (int___rmul___int_list _ _ l vs.toArray n)
   ⟨g.1,rfl,⟨_,g.1,rfl⟩,call_meets F.slot_list_mul ⟨_,g.1,rfl⟩ F.entry_list_mul (F.args_list_mul_2 _ _)
    (AutoListH.list___mul___list_int_3 l vs.toArray n _ _ (by simp [Builtin.List.listFitsIndex]; omega) (by omega) (by simp [Builtin.List.listTooLong,sizeLine]; omega))
    ⟨g.1,?_⟩⟩)
  have e:vs.toArray.isEmpty = false:=by cases hvs <;> simp_all
  rw [e]
  simp only [Bool.false_eq_true,if_false,listMul_foldl]
  have hr:∀ j,TVs (Gh W s.heap av) (List.replicate j _).flatten (List.replicate j vs).flatten:=fun j => by
   induction j with
   | zero => exact .nil
   | succ j ih => rw [List.replicate_succ,List.replicate_succ,List.flatten_cons,List.flatten_cons]; exact hvs.append ih
  have z:=hQ _ 0 s.toks (hr _)
  exact z
theorem E.mbin {op:Operator} {l r:Expr} {pos:Pos} {Tl Tr:TE} (hl:E W c l Tl) (hr:E W c r Tr) :
  E W c (.BinOp l op r pos) (fun vs ob k => Tl vs ob fun a ob₁ => Tr vs ob₁ fun b ob₂ => a.tree = true ∧ b.tree = true ∧ ∃ zs,mop op a b = some zs ∧ k (.loc ob₂.length) (ob₂ ++ [.list zs])):=by
 intro A hid vs ob k s as Q hA ht R hQ
 refine wpAny_BinOp (hl A hid vs ob _ s as _ hA ht R fun va h₁ t₁ a ob₁ as₁ ht₁ R₁ hva kp₁ ex₁ => ?_)
 refine hr.then hA ht₁ R₁ kp₁ ex₁ fun vb h₂ t₂ b ob₂ as₂ ⟨ta,tb,zs,hf,hk⟩ R₂ hvb kp₂ ex₂ kp ex => ?_
 have hva':=(hva.step kp₂ (fun a ha => mem_av_live ha) ex₂).tree ta
 refine mop_ok op (s:={ s with heap:=h₂,toks:=t₂ }) hf hva' (hvb.tree tb) fun us n tk t => ?_
 obtain ⟨R₃,ex₃,kp₃⟩:=R₂.newObj (n:=n) t
 exact hQ _ _ tk _ _ _ hk R₃ ⟨_,([],true),rfl,by rw [← R₂.objs.1]; simp⟩ (kp.trans kp₃ ex.live) (ex.trans kp ex₃)
theorem unpack_list2 {A:Around} {s:Shared} {l:Addr} {u v:Value} {Q:List Value → Shared → Prop} (hh:A.handled = none) (hl:s.heap.IsList l #[u,v])
  (hQ:∀ (h':Heap) (tk:Nat),(∀ b o,s.heap.get? b = some o → h'.get? b = some o) → Q [u,v] { s with heap:=h',toks:=tk }):wpAny (model W.prog W.w) A (unpackItems (.ref l) 2 none) Q (fun _ _ => False) s:=by
 have hlt:l ≠ s.heap.objs.size:=by obtain ⟨o,ho,_⟩:=hl; exact Nat.ne_of_lt (Heap.lt_size ho)
 have ht:s.TypeIs (.ref l) "list":=by obtain ⟨o,ho,hc,_⟩:=hl; exact ⟨o,ho,hc⟩
 unfold unpackItems
 refine wpAny_bind ?_
 unfold notIterableAtAll
 refine wpAny_bind (wpAny_specialOf ht F.slot_list_iter.lookup ?_)
 refine wpAny_pure ?_
 simp only [Bool.false_eq_true,if_false]
 refine wpAny_bind (wpAny_holding (wpAny_pyIter_list hl ?_))
 have g₀:∀ (o:Obj) b o',s.heap.get? b = some o' → (s.heap.push o).get? b = some o':=fun o => push_grow _ _
 refine wpAny_bind (wpAny_holding ?_)
 show wpAny _ _ (pyNext (.ref s.heap.objs.size) >>= _) _ _ _
 have hl₀:=hl.push { cls:=.type "list_iterator",data:=.fields #[.ref l,.int 0 0] }
 refine wpAny_bind (wpAny_pyNext_list_item (i:=0) ⟨_,Heap.get?_push_size _ rfl,rfl,rfl⟩ hl₀ (x:=u) rfl fun h₁ hit₁ hs₁ => ?_)
 have hl₁:=hl₀.extBut hs₁.extBut hlt
 refine wpAny_bind (wpAny_holding ?_)
 show wpAny _ _ (pyNext (.ref s.heap.objs.size) >>= _) _ _ _
 refine wpAny_bind (wpAny_pyNext_list_item (i:=1) hit₁ hl₁ (x:=v) rfl fun h₂ hit₂ hs₂ => ?_)
 have hl₂:=hl₁.extBut hs₂.extBut hlt
 refine wpAny_bind (wpAny_holding ?_)
 show wpAny _ _ (pure []) _ _ _
 refine wpAny_pure (wpAny_pure (wpAny_pure ?_))
 rw [if_neg (by simp)]
 refine wpAny_bind (wpAny_holding (wpAny_pyNext_list_end hh hit₂ hl₂ (by simp) fun h₃ he₃ => ?_))
 simp only [Option.isSome_none,Bool.false_eq_true,if_false]
 refine wpAny_pure (hQ h₃ s.toks fun b o e => ?_)
 have hb:b ≠ s.heap.objs.size:=Nat.ne_of_lt (Heap.lt_size e)
 exact he₃ b o hb (hs₂.extBut b o hb (hs₁.extBut b o hb (g₀ _ _ _ e)))
theorem S.tupL {x y:Str} {px py tp pos:Pos} {kk:Nat} {e:Expr} {T:TE} {i j:Nat} (he:E W c e T) (hx:St W c x i) (hy:St W c y j)
  (hs:swapsWithSole [.Tuple [.Name x px,.Name y py] kk tp] e pos.line c.env = pure false) (hw:swappedStores [.Tuple [.Name x px,.Name y py] kk tp] e c.env = pure none) :
  S W c (.Assign [.Tuple [.Name x px,.Name y py] kk tp] e pos) (fun vs ob k => T vs ob fun av ob' => ∃ a b,av = .lst [a,b] ∧ k .next (setV (setV vs i a) j b) ob'):=by
 intro A hid vs ob k s as Q hA ht R hQ
 refine Assign_Tuple (he A hid vs ob _ s as _ hA ht R fun v h₁ t₁ av ob₁ as₁ hk R₁ hv kp ex => ?_) hs hw
 obtain ⟨a,b,rfl,hk⟩:=hk
 have t:TV _ (.lst [a,b]) v:=hv
 cases t
 rename_i us l n g t
 cases t
 rename_i u us tu t
 cases t
 rename_i u' us tu' t
 cases t
 rw [arm_assign_Tuple]
 refine wpAny_bind (wpAny_standAt ?_)
 unfold unpack
 show wpAny _ A (holding [.ref l] (unpackItems (.ref l) 2 none) >>= _) _ _ _
 refine wpAny_bind (wpAny_holding (unpack_list2 hA.1 ⟨_,g.1,rfl,n,rfl⟩ fun h₂ t₂ gr => ?_))
 have R₂:=R₁.grow gr
 show wpAny _ A (do holding [u'] (PySem.assign (.Name x px) c.env u); assignInOrder [PySem.assign (.Name y py) c.env] [u']) _ _ _
 refine wpAny_bind (wpAny_holding (wpAny_assign_Name (hx A hid vs ob₁ { s with heap:=h₂,toks:=t₂ } as₁ _ a u R₂ (VV.of (tu.grow gr)) fun h₃ t₃ R₃ kp₃ _ => ?_)))
 show wpAny _ A (do holding [] (PySem.assign (.Name y py) c.env u'); assignInOrder [] []) _ _ _
 have tu2:TV (Gh W h₃ (c.av hid as₁)) b u':=(tu'.grow gr).kp kp₃ (fun a ha => .inl (mem_av_own ha)) (fun a ha => .inl ha)
 refine wpAny_bind (wpAny_holding (wpAny_assign_Name (hy A hid _ ob₁ { s with heap:=h₃,toks:=t₃ } as₁ _ b u' R₃ (VV.of tu2) fun h₄ t₄ R₄ kp₄ _ => ?_)))
 have k₂:Kw W c as₁ h₁ h₄:=(((Kp.grow gr c.own).trans kp₃ fun a ha => .inl ha).trans kp₄ fun a ha => .inl ha).more fun a ha => .inl (List.mem_append_left _ ha)
 exact wpAny_pure (hQ .next h₄ t₄ .next _ _ as₁ hk R₄ rfl (kp.kw.trans k₂ ex) ex)
end
section
set_option backward.match.sparseCases false
variable {W:Wd} {c:Cx} {hid:List Addr}
noncomputable def refAV (i:Nat):AV → Bool
 | .loc k => k == i
 | _ => false
noncomputable def refAO (i:Nat):AO → Bool
 | .inst _ _ xs => xs.any (refAV i)
 | _ => false
noncomputable def refVS (i:Nat) (vs:VS):Bool:=vs.any fun a => match a with | some a => refAV i a | none => false
noncomputable def refAF (i:Nat):AF → Bool
 | .ret a => refAV i a
 | _ => false
noncomputable def gcN (fl:AF) (vs:VS):Nat → OB → OB
 | 0,ob => ob
 | n + 1,ob => if refAF (ob.length - 1) fl || refVS (ob.length - 1) vs || ob.any (refAO (ob.length - 1)) then ob else gcN fl vs n ob.dropLast
theorem lenA {α:Type} {l:List α} {a:α}:(l ++ [a]).length = l.length + 1:=List.length_append
theorem VV.drop {C:CP} {G G':GP} {as:AS} {p:Own} {av:AV} {v:Value} (up:∀ a o,G a o → G' a o) (hr:refAV as.length av = false) (t:VV C G (as ++ [p]) av v):VV C G' as av v:=by
 cases av
 case loc k =>
  obtain ⟨a,b,e,e'⟩:=t
  refine ⟨a,b,e,?_⟩
  rwa [List.getElem?_append_left (Nat.lt_of_le_of_ne (Nat.le_of_lt_succ (Nat.lt_of_lt_of_eq (List.getElem?_eq_some_iff.mp e').1 lenA)) (beq_eq_false_iff_ne.mp hr))] at e'
 case clo i =>
  obtain ⟨f,o,c',oc,e,g1,g2,r⟩:=t
  exact ⟨f,o,c',oc,e,up _ _ g1,up _ _ g2,r⟩
 all_goals exact TV.mono up t
theorem VVs.drop {C:CP} {G G':GP} {as:AS} {p:Own} (up:∀ a o,G a o → G' a o) {xs us} (h:xs.any (refAV as.length) = false) (t:VVs C G (as ++ [p]) xs us):VVs C G' as xs us:=t.imp fun _ _ m a => a.drop up (by simpa using List.any_eq_false.mp h _ m)
theorem Rel.dropLast {vs:VS} {ob:OB} {as:AS} {h:Heap} {o:AO} {p:Own} (R:Rel W c hid vs (ob ++ [o]) (as ++ [p]) h) (hl:as.length = ob.length)
  (hv:∀ (i:Nat) (x:Str) (k:NameKind) (a:AV),c.env.scope.names[i]? = some (x,k) → getV vs i = some a → refAV as.length a = false) (ho:ob.any (refAO as.length) = false) :
  Rel W c hid vs ob as h ∧ ∀ a o,Gh W h (c.av hid (as ++ [p])) a o → Gh W h (c.av hid as) a o:=by
 have sub:∀ a ∈ c.av hid as,a ∈ c.av hid (as ++ [p]):=fun a ha => by
  rcases List.mem_append.mp ha with q | q
  ·exact mem_av_oh q
  ·exact mem_av_live (by rw [live_append]; exact List.mem_append_left _ q)
 have up:∀ a o,Gh W h (c.av hid (as ++ [p])) a o → Gh W h (c.av hid as) a o:=fun a o ⟨e,h1,h2⟩ => ⟨e,fun hm => h1 (sub a hm),h2⟩
 refine ⟨⟨R.ok,R.base.less sub,?_,?_,hl,fun i o' e => ?_⟩,up⟩
 ·have:=R.nodup
  unfold Cx.av at this ⊢
  rw [live_append,← List.append_assoc] at this
  exact (List.nodup_append.mp this).1
 ·obtain ⟨hc,m,hm,hvv⟩:=R.vars
  refine ⟨hc,m,hm,fun i x k av e1 e2 => ?_⟩
  obtain ⟨v,q1,q2⟩:=hvv i x k av e1 e2
  exact ⟨v,q1,q2.drop up (hv i x k av e1 e2)⟩
 ·have hi:i < ob.length:=(List.getElem?_eq_some_iff.mp e).1
  obtain ⟨q,eq,r⟩:=R.objs.2 i o' (by rw [List.getElem?_append_left hi]; exact e)
  rw [List.getElem?_append_left (by rw [hl]; exact hi)] at eq
  refine ⟨q,eq,?_⟩
  cases o' with
  | list xs => obtain ⟨us,n,hb,g,t⟩:=r; exact ⟨us,n,hb,g,t.mono up⟩
  | frz xs => exact ⟨r.1,r.2.mono up⟩
  | inst cls ns xs =>
   obtain ⟨us,m,hb,I,hd,hm,t⟩:=r
   exact ⟨us,m,hb,I,hd,hm,t.drop up (eq_false_of_ne_true (List.any_eq_false.mp ho _ (List.mem_of_getElem? e)))⟩
  | ifrz cls ns xs => exact ⟨r.1,r.2.mono up⟩
theorem Ex.dropLast {h:Heap} {as as':AS} {p:Own} (x:Ex h as (as' ++ [p])) (hl:as.length ≤ as'.length):Ex h as as':=by
 refine ⟨fun i a b e => ?_,fun a ha => x.2 a (by rw [live_append]; exact List.mem_append_left _ ha)⟩
 obtain ⟨b',e'⟩:=x.1 i a b e
 have hi:i < as.length:=(List.getElem?_eq_some_iff.mp e).1
 rw [List.getElem?_append_left (by lia)] at e'
 exact ⟨b',e'⟩
theorem gcN_cat {fl:AF} {vs:VS} {n:Nat} {ob:OB} {o:AO}:gcN fl vs (n + 1) (ob ++ [o]) = if (refAF ob.length fl || refVS ob.length vs || (ob ++ [o]).any (refAO ob.length)) = true then ob ++ [o] else gcN fl vs n ob:=by
 show (if (refAF ((ob ++ [o]).length - 1) fl || refVS ((ob ++ [o]).length - 1) vs || (ob ++ [o]).any (refAO ((ob ++ [o]).length - 1))) = true then ob ++ [o] else gcN fl vs n (ob ++ [o]).dropLast) = _
 rw [List.dropLast_concat,show (ob ++ [o]).length - 1 = ob.length by rw [List.length_append]; rfl]
theorem gc_step {fl:AF} {vs:VS} {h h₀:Heap} {as₀ as:AS} {ob:OB} {o:AO} {p:Own} (R:Rel W c hid vs (ob ++ [o]) (as ++ [p]) h) (ex:Ex h₀ as₀ (as ++ [p])) (hl:as.length = ob.length) (hm:as₀.length ≤ ob.length)
  (H:∀ (i:Nat) (x:Str) (k:NameKind) (a:AV),c.env.scope.names[i]? = some (x,k) → getV vs i = some a → refAV ob.length a = false) (r1:refAF ob.length fl = false) (r3:ob.any (refAO ob.length) = false) :
  Rel W c hid vs ob as h ∧ Ex h₀ as₀ as ∧ ∀ v,FlowIs c.isclo (Gh W h (c.av hid (as ++ [p]))) (as ++ [p]) fl v → FlowIs c.isclo (Gh W h (c.av hid as)) as fl v:=by
 rw [← hl] at H r1 r3 hm
 have q:=R.dropLast hl H r3
 refine ⟨q.1,ex.dropLast hm,?_⟩
 cases fl with
 | ret a => exact fun v x => x.elim fun u x => ⟨u,x.1,x.2.drop q.2 r1⟩
 | _ => exact fun _ h => h
theorem gc_ok {fl:AF} {vs vs₁:VS} {h h₀:Heap} {as₀:AS} {m:Nat} (hm:as₀.length ≤ m) (H:∀ j,m ≤ j → refVS j vs₁ = false → ∀ (i:Nat) (x:Str) (k:NameKind) (a:AV),c.env.scope.names[i]? = some (x,k) → getV vs i = some a → refAV j a = false) (n:Nat) :
  ∀ (ob:OB) (as:AS),Rel W c hid vs ob as h → Ex h₀ as₀ as → (n = 0 ∨ m + n ≤ ob.length) → ∃ as',Rel W c hid vs (gcN fl vs₁ n ob) as' h ∧ Ex h₀ as₀ as' ∧ ∀ v,FlowIs c.isclo (Gh W h (c.av hid as)) as fl v → FlowIs c.isclo (Gh W h (c.av hid as')) as' fl v:=by
 induction n with
 | zero => exact fun ob as R ex _ => ⟨as,R,ex,fun _ h => h⟩
 | succ n ih =>
  intro ob as R ex hn
  have hn:=hn.resolve_left (Nat.succ_ne_zero n)
  rcases List.eq_nil_or_concat ob with e | ⟨ob',o,e⟩
  ·exact absurd (e ▸ hn) (Nat.not_succ_le_zero _)
  rcases List.eq_nil_or_concat as with e' | ⟨as',p,e'⟩
  ·exact absurd ((e' ▸ R.objs.1:_ = ob.length) ▸ hn) (Nat.not_succ_le_zero _)
  rw [List.concat_eq_append] at e e'
  subst e e'
  have hl:as'.length = ob'.length:=Nat.succ.inj (List.length_append.symm.trans (R.objs.1.trans List.length_append))
  have hm':m + n ≤ ob'.length:=Nat.le_of_succ_le_succ (Nat.le_trans hn (Nat.le_of_eq lenA))
  rw [gcN_cat]
  by_cases hr:(refAF ob'.length fl || refVS ob'.length vs₁ || (ob' ++ [o]).any (refAO ob'.length)) = true
  ·rw [if_pos hr]; exact ⟨_,R,ex,fun _ h => h⟩
  ·rw [if_neg hr]
   have r:=Bool.or_eq_false_iff.mp (eq_false_of_ne_true hr)
   have r1:=Bool.or_eq_false_iff.mp r.1
   have hq:=Nat.le_trans (Nat.le_add_right m n) hm'
   have q:=gc_step R ex hl (Nat.le_trans hm hq) (H _ hq r1.2) r1.1 (Bool.or_eq_false_iff.mp (List.any_append.symm.trans r.2)).1
   exact (ih _ _ q.1 q.2.1 (.inr hm')).elim fun as'' z => ⟨as'',z.1,z.2.1,fun v hv => z.2.2 v (q.2.2 v hv)⟩
theorem sub_or (a b:Nat):a - b = 0 ∨ b + (a - b) ≤ a:=(Nat.le_total a b).elim (fun h => .inl (Nat.sub_eq_zero_of_le h)) fun h => .inr (Nat.le_of_eq (Nat.add_sub_cancel' h))
noncomputable def gcS (f:VS → OB → Option (AF × VS × OB)):VS → OB → Option (AF × VS × OB):=fun vs ob => (f vs ob).map fun p => (p.1,p.2.1,gcN p.1 p.2.1 (p.2.2.length - ob.length) p.2.2)
theorem refVS_ok {j:Nat} {vs:VS} (h:refVS j vs = false) {i:Nat} {a:AV} (e:getV vs i = some a):refAV j a = false:=by
 have e:(vs[i]?).bind id = some a:=e
 exact bindE e fun o q e => eq_false_of_ne_true (List.any_eq_false.mp h _ (List.mem_of_getElem? (q.trans (congrArg some (show o = some a from e)))))
theorem gcRun {t:Sem Flow} {f:VS → OB → Option (AF × VS × OB)} (h:Run W c t (fun vs ob k => ∃ a vs' ob',f vs ob = some (a,vs',ob') ∧ k a vs' ob')):Run W c t (fun vs ob k => ∃ a vs' ob',gcS f vs ob = some (a,vs',ob') ∧ k a vs' ob'):=by
 intro A hid vs ob k s as Q hA ht R hQ
 obtain ⟨a,vs',ob',e,hk⟩:=ht
 obtain ⟨p,e1,e2⟩:=Option.map_eq_some_iff.mp e
 cases e2
 obtain ⟨fl,vs₁,ob₁⟩:=p
 have hlen:as.length = ob.length:=R.objs.1
 refine h A hid vs ob (fun a₂ vs₂ ob₂ => a₂ = fl ∧ vs₂ = vs₁ ∧ ob₂ = ob₁) s as Q hA ⟨fl,vs₁,ob₁,e1,rfl,rfl,rfl⟩ R fun f' h' tk fl' vs₂ ob₂ as₂ hk₂ R₂ hf kw ex => ?_
 obtain ⟨rfl,rfl,rfl⟩:=hk₂
 obtain ⟨as₃,R₃,ex₃,f₃⟩:=gc_ok (fl:=fl') (vs₁:=vs₂) (m:=ob.length) (as₀:=as) (h₀:=s.heap) (Nat.le_of_eq hlen) (fun j _ hr i x k a _ q => refVS_ok hr q) _ ob₂ as₂ R₂ ex (sub_or ob₂.length ob.length)
 exact hQ f' h' tk fl' vs₂ _ as₃ hk R₃ (f₃ _ hf) kw ex₃
theorem refs_lt {vs:VS} {ob:OB} {as:AS} {h:Heap} (R:Rel W c hid vs ob as h) {j:Nat} (hj:ob.length ≤ j) {i:Nat} {x:Str} {k:NameKind} {a:AV} (e1:c.env.scope.names[i]? = some (x,k)) (e2:getV vs i = some a):refAV j a = false:=by
 obtain ⟨_,m,_,hv⟩:=R.vars
 obtain ⟨v,_,t⟩:=hv i x k a e1 e2
 cases a
 case loc l =>
  obtain ⟨r,b,_,e⟩:=t
  have h1:=(List.getElem?_eq_some_iff.mp e).1
  rw [R.objs.1] at h1
  exact beq_eq_false_iff_ne.mpr (Nat.ne_of_lt (Nat.lt_of_lt_of_le h1 hj))
 all_goals rfl
noncomputable def gcE (f:VS → OB → Option (AV × OB)):VS → OB → Option (AV × OB):=fun vs ob => (f vs ob).map fun p => (p.1,gcN (.ret p.1) [] (p.2.length - ob.length) p.2)
theorem gcER {e:Expr} {f:VS → OB → Option (AV × OB)} (h:E W c e (fun vs ob k => ∃ a ob',f vs ob = some (a,ob') ∧ k a ob')):E W c e (fun vs ob k => ∃ a ob',gcE f vs ob = some (a,ob') ∧ k a ob'):=by
 intro A hid vs ob k s as Q hA ht R hQ
 obtain ⟨a,ob',e,hk⟩:=ht
 obtain ⟨p,e1,e2⟩:=Option.map_eq_some_iff.mp e
 cases e2
 obtain ⟨a,ob₁⟩:=p
 have hlen:as.length = ob.length:=R.objs.1
 refine h A hid vs ob (fun a₂ ob₂ => a₂ = a ∧ ob₂ = ob₁) s as Q hA ⟨a,ob₁,e1,rfl,rfl⟩ R fun v h' tk a' ob₂ as₂ hk₂ R₂ hv kp ex => ?_
 obtain ⟨rfl,rfl⟩:=hk₂
 obtain ⟨as₃,R₃,ex₃,f₃⟩:=gc_ok (fl:=.ret a') (vs₁:=[]) (m:=ob.length) (as₀:=as) (h₀:=s.heap) (Nat.le_of_eq hlen) (fun j hj _ i x k a q1 q2 => refs_lt R hj q1 q2) _ ob₂ as₂ R₂ ex (sub_or ob₂.length ob.length)
 obtain ⟨u,eu,hu⟩:=f₃ (.ret v) ⟨v,rfl,hv⟩
 exact hQ v h' tk a' _ as₃ hk R₃ (Flow.ret.inj eu ▸ hu) kp ex₃
end
section
set_option backward.match.sparseCases false
structure FI where
 fd:FuncData
 body:List Stmt
 ps:List Str
 is:List Nat
 npos:Nat
 kwn:List Str
 kwd:Bool
 tb:Option Tb
structure Gl where
 name:Str → Option AV
 fn:Addr → Option FI
 user:Str → Bool
 meth:Addr → Str → Option Addr
 init:Addr → Option Addr
 plain:Addr → Str → Bool
 cattr:Addr → Str → Option AV
 pats:List Addr
 dict:Addr
 dmap:Int → Option Str
structure Sc where
 names:List (Str × NameKind)
 own:Bool
 qual:Str
 tb:Option Tb
 clo:Option Str
noncomputable abbrev FE:=VS → OB → Option (AV × OB)
noncomputable abbrev FB:=VS → OB → Option (Bool × OB)
noncomputable abbrev FS:=VS → OB → Option (AF × VS × OB)
noncomputable abbrev FL:=VS → OB → Option (List AV × OB)
structure Ev where
 e:Sc → Expr → FE
 i:Sc → Expr → FB
 s:Sc → Stmt → FS
noncomputable def posOf (x:Str):List (Str × NameKind) → Option (Nat × NameKind)
 | [] => none
 | (y,k) :: r => if x == y then some (0,k) else (posOf x r).map fun p => (p.1 + 1,p.2)
noncomputable def ldK:NameKind → Bool
 | .local | .cell | .free => true
 | _ => false
noncomputable def glK:NameKind → Bool
 | .globalImplicit => true
 | _ => false
noncomputable def stK (own:Bool):NameKind → Bool
 | .local => true
 | .cell => own
 | _ => false
noncomputable def cfK:NameKind → Bool
 | .cell | .free => true
 | _ => false
noncomputable def ldIx (sc:Sc) (x:Str):Option Nat:=if x == ("__debug__" : Str) || x == ("__classdict__" : Str) then none else (posOf x sc.names).bind fun p => if ldK p.2 = true then some p.1 else none
noncomputable def gName (G:Gl) (sc:Sc) (x:Str):Option AV:=if x == ("__debug__" : Str) then none else (posOf x sc.names).bind fun p => if glK p.2 = true then G.name x else none
noncomputable def stIx (sc:Sc) (x:Str):Option Nat:=(posOf x sc.names).bind fun p => if stK sc.own p.2 = true then some p.1 else none
noncomputable def evName (G:Gl) (sc:Sc) (x:Str):FE:=fun vs ob =>
 if x == ("__debug__" : Str) then some (.bool true,ob) else
 match ldIx sc x with
 | some i => (getV vs i).map fun a => (a,ob)
 | none => (gName G sc x).map fun a => (a,ob)
noncomputable def frz (f:FE):FE:=fun vs ob => (f vs ob).bind fun p => tr p.2 p.1
noncomputable def frzO (f:FE):FE:=fun vs ob => (f vs ob).bind fun p => match tr p.2 p.1 with | some q => some q | none => some p
noncomputable def evs (f:Expr → FE):List Expr → FL
 | [] => fun _ ob => some ([],ob)
 | e :: es => fun vs ob => (f e vs ob).bind fun p => (evs f es vs p.2).bind fun q => some (p.1 :: q.1,q.2)
noncomputable def evk (f:Expr → FE):List Keyword → FL
 | [] => fun _ ob => some ([],ob)
 | e :: es => fun vs ob => (f e.value vs ob).bind fun p => (evk f es vs p.2).bind fun q => some (p.1 :: q.1,q.2)
noncomputable def ss (f:Stmt → FS):List Stmt → FS
 | [] => fun vs ob => some (.next,vs,ob)
 | s :: r => fun vs ob => (gcS (f s) vs ob).bind fun p => match p.1 with | .next => ss f r p.2.1 p.2.2 | a => some (a,p.2.1,p.2.2)
noncomputable def bfn (id:String):BF :=
 if id = "len" then bLen else if id = "abs" then bAbs else if id = "hex" then bHex else if id = "divmod" then bDivmod else if id = "sum" then bSum else if id = "max" then bMax else if id = "sorted" then bSorted else fun _ _ => none
noncomputable def tfn (T:String):BF:=if T = "tuple" then bTuple else if T = "type" then bType else fun _ _ => none
noncomputable def mfn (G:Gl) (id:String):BF :=
 if id = "list.append" then bAppend else if id = "list.reverse" then bReverse else if id = "list.count" then bCount else if id = "list.index" then bIndex
 else if id = "str.upper" then bUpper else if id = "str.lower" then bLower else if id = "str.split" then bSplit else if id = "str.join" then bJoin
 else if id = "int.bit_length" then bBits else if id = "dict.get" then bDictGet G.dict G.dmap else if id = "re.Pattern.search" then bSearch G.pats else fun _ _ => none
noncomputable def mTab:List (String × Str × String):=[("list","append","list.append"),("list","reverse","list.reverse"),("list","count","list.count"),("list","index","list.index"),("str","upper","str.upper"),("str","lower","str.lower"),("str","split","str.split"),("str","join","str.join"),
 ("int","bit_length","int.bit_length"),("dict","get","dict.get"),("re.Pattern","search","re.Pattern.search")]
noncomputable def mId (T:String) (name:Str):Option String:=(mTab.find? fun q => q.1 == T && q.2.1 == name).map fun q => q.2.2
noncomputable def tyOf (G:Gl) (ob:OB):AV → Option String
 | .str _ => some "str"
 | .int _ => some "int"
 | .lst _ => some "list"
 | .loc k => (rdL ob (.loc k)).bind fun _ => some "list"
 | .cst v => (rf? v).bind fun r => if r = G.dict then some "dict" else if G.pats.contains r then some "re.Pattern" else none
 | _ => none
noncomputable def freeVS (names inner:List (Str × NameKind)) (vs:VS):VS:=inner.map fun p =>
 if p.2 == .free then (posOf p.1 names).bind fun q => if cfK q.2 = true then getV vs q.1 else none else none
noncomputable def notClo:AV → Bool
 | .clo _ => false
 | _ => true
noncomputable def fsc (fi:FI):Sc:={ names:=fi.fd.scope.names,own:=true,qual:=fi.fd.qualname ++ ".<locals>.",tb:=fi.tb,clo:=fi.tb.map (·.q) }
noncomputable def retF (q:AF × VS × OB):Option (AV × OB) :=
 match q.1 with
 | .ret a => if notClo a = true then some (a,q.2.2) else none
 | .next => some (.none,q.2.2)
 | .brk => none
 | .cont => none
noncomputable def retI (ob:OB) (q:AF × VS × OB):Option (AV × OB) :=
 match q.1 with
 | .ret a => (tr q.2.2 a).map fun p => (p.1,ob)
 | .next => some (.none,ob)
 | .brk => none
 | .cont => none
noncomputable def callS (r:Ev) (fi:FI) (avs kvs:List AV) (ob:OB):Option (AV × OB) :=
 if avs.length = fi.npos ∧ kvs.length = fi.kwn.length ∧ (avs ++ kvs).all notClo = true then
  (ss (r.s (fsc fi)) fi.body (setVs (vs₀ fi.fd) fi.is (avs ++ kvs ++ if fi.kwd then [.edict] else [])) ob).bind retF
 else none
noncomputable def callI (r:Ev) (fi:FI) (avs:List AV) (ob:OB):Option (AV × OB) :=
 if avs.length = fi.npos ∧ fi.kwn = [] ∧ fi.kwd = false ∧ trees avs = true then
  (ss (r.s (fsc fi)) fi.body (setVs (vs₀ fi.fd) fi.is avs) []).bind (retI ob)
 else none
noncomputable def callC (G:Gl) (r:Ev) (C fI:Addr) (avs:List AV) (ob:OB):Option (AV × OB) :=
 (G.fn fI).bind fun fi => if fi.kwn = [] then (callS r fi (.loc ob.length :: avs) [] (ob ++ [.inst C [] []])).bind fun q => q.1.n?.bind fun _ => some (.loc ob.length,q.2) else none
noncomputable def plainMode (G:Gl):Value → Bool
 | .builtin id => id = "len"
 | .type T => T = "type"
 | .ref a => (G.init a).isSome
 | _ => false
noncomputable def callR (G:Gl) (r:Ev) (a:Addr) (avs:List AV) (ob:OB):Option (AV × OB) :=
 match G.init a with
 | some fI => callC G r a fI avs ob
 | none => (G.fn a).bind fun fi => if trees avs then callI r fi avs ob else callS r fi avs [] ob
noncomputable def callV (G:Gl) (r:Ev) (v:Value) (avs:List AV) (ob:OB):Option (AV × OB) :=
 match v with
 | .builtin id => bfn id avs ob
 | .type T => tfn T avs ob
 | .ref a => callR G r a avs ob
 | _ => none
noncomputable def bareArgs (p:Arguments):Bool:=p.posonlyargs.isEmpty && p.vararg.isNone && p.kwonlyargs.isEmpty && p.kw_defaults.isEmpty && p.kwarg.isNone && p.defaults.isEmpty && p.args.all (·.annotation.isNone)
noncomputable def argsX:List Str:=["x","L","R"]
noncomputable def argsL:List Str:=["L","R"]
noncomputable def cloPs (p:Arguments):Option (List Str) :=
 if bareArgs p = true then (if p.args.map Arg.arg = argsX then some argsX else if p.args.map Arg.arg = argsL then some argsL else none) else none
noncomputable def cloSc (ci:Clo) (q:Str):Sc:={ names:=ci.scope.names,own:=false,qual:=q ++ ".<locals>.",tb:=none,clo:=some q }
noncomputable def cloFree (names inner:List (Str × NameKind)):Bool:=inner.all fun p => if p.2 == .free then (match posOf p.1 names with | some (_,.cell) => true | some (_,.free) => true | _ => false) else p.2 != .cell
noncomputable def distinct:List (Str × NameKind) → Bool
 | [] => true
 | p :: r => (!(r.any fun q => q.1 == p.1)) && distinct r
noncomputable def scopeOk (s:Scope):Bool:=!s.isCoroutine && !s.isGenerator && s.kind == .function && distinct s.names
noncomputable def callClo (r:Ev) (sc:Sc) (q:Str) (ci:Clo) (avs:List AV) (vs:VS) (ob:OB):Option (AV × OB) :=
 (cloPs ci.params).bind fun ps => (ps.mapM (stIx (cloSc ci q))).bind fun is =>
  if (scopeOk ci.scope && cloFree sc.names ci.scope.names && decide (avs.length = ps.length)) = true then
   (ss (r.s (cloSc ci q)) ci.body (setVs (freeVS sc.names ci.scope.names vs) is avs) ob).bind retF
  else none
noncomputable def AV.f?:AV → Option Clo
 | .clo v => some v
 | _ => Option.none
theorem AV.fI {a:AV} {i:Clo}:a.f? = some i → a = .clo i:=by cases a <;> first | exact noS | exact fun h => congrArg AV.clo (Option.some.inj h)
noncomputable def eCall (G:Gl) (r:Ev) (sc:Sc) (x:Str) (args:List Expr):FE:=fun vs ob =>
 if (noStar args && !args.isEmpty) = true then
  match (gName G sc x).bind AV.c? with
  | some v => (evs (fun e => if plainMode G v then r.e sc e else frzO (r.e sc e)) args vs ob).bind fun q => callV G r v q.1 q.2
  | none => (ldIx sc x).bind fun i => sc.clo.bind fun q => ((getV vs i).bind AV.f?).bind fun ci => (evs (fun e => frzO (r.e sc e)) args vs ob).bind fun p => callClo r sc q ci p.1 vs p.2
 else none
noncomputable def eMethU (G:Gl) (r:Ev) (sc:Sc) (o:Expr) (name:Str) (args:List Expr) (kws:List Keyword):FE:=fun vs ob =>
 (r.e sc o vs ob).bind fun p => (instOf p.2 p.1).bind fun i => if i.2.1.contains name = true then none else (G.meth i.1 name).bind fun f => (G.fn f).bind fun fi =>
  if fi.kwn = kwNames kws then (evs (fun e => frzO (r.e sc e)) args vs p.2).bind fun q => (evk (fun e => frzO (r.e sc e)) kws vs q.2).bind fun z => callS r fi (p.1 :: q.1) z.1 z.2 else none
noncomputable def eMethB (G:Gl) (r:Ev) (sc:Sc) (o:Expr) (name:Str) (args:List Expr):FE:=fun vs ob =>
 ((if (name == ("append" : Str) || name == ("reverse" : Str)) = true then r.e sc o else frz (r.e sc o)) vs ob).bind fun p => (tyOf G p.2 p.1).bind fun T => (mId T name).bind fun id =>
  (evs (fun e => frz (r.e sc e)) args vs p.2).bind fun q => mfn G id (p.1 :: q.1) q.2
noncomputable def eMeth (G:Gl) (r:Ev) (sc:Sc) (o:Expr) (name:Str) (apos:Pos) (args:List Expr) (kws:List Keyword) (pos:Pos):FE:=fun vs ob =>
 if (!isBareCall o && noStar args && allNamed kws && decide (args.length + kws.length < 29) && (apos.endLine == pos.line)) = true then
  if G.user name = true then eMethU G r sc o name args kws vs ob else if kws.isEmpty = true then eMethB G r sc o name args vs ob else none
 else none
noncomputable def eAttr (G:Gl) (r:Ev) (sc:Sc) (value:Expr) (name:Str):FE:=fun vs ob =>
 if isBareCall value = true then none else
 (r.e sc value vs ob).bind fun p => match p.1.c?.bind rf? with
  | some C => (G.cattr C name).map fun a => (a,p.2)
  | none => (instOf p.2 p.1).bind fun i => if G.plain i.1 name = true then ((i.2.1.zip i.2.2).lookup name).bind fun x => if isData x = true then some (x,p.2) else none else none
noncomputable def eBin (r:Ev) (sc:Sc) (l:Expr) (op:Operator) (y:Expr):FE:=fun vs ob =>
 (frz (r.e sc l) vs ob).bind fun p => (frz (r.e sc y) vs p.2).bind fun q => (bopF op p.1 q.1).map fun z => (z,q.2)
noncomputable def eBinM (r:Ev) (sc:Sc) (l:Expr) (op:Operator) (y:Expr):FE:=fun vs ob =>
 (frz (r.e sc l) vs ob).bind fun p => (frz (r.e sc y) vs p.2).bind fun q => match mop op p.1 q.1 with
  | some zs => some (.loc q.2.length,q.2 ++ [.list zs])
  | none => (bopF op p.1 q.1).map fun z => (z,q.2)
noncomputable def eLst (r:Ev) (sc:Sc) (es:List Expr):FE:=fun vs ob =>
 if noStar es = true then (evs (fun e => frz (r.e sc e)) es vs ob).bind fun p => if trees p.1 = true ∧ p.1.length ≤ sizeLine then some (.lst p.1,p.2) else none else none
noncomputable def eLstM (r:Ev) (sc:Sc) (es:List Expr):FE:=fun vs ob =>
 if noStar es = true then (evs (fun e => frz (r.e sc e)) es vs ob).bind fun p => if trees p.1 = true ∧ p.1.length ≤ sizeLine then some (.loc p.2.length,p.2 ++ [.list p.1]) else none else none
noncomputable def eTup (r:Ev) (sc:Sc) (es:List Expr):FE:=fun vs ob =>
 if noStar es = true then (evs (fun e => frz (r.e sc e)) es vs ob).bind fun p => if trees p.1 = true ∧ p.1.length ≤ sizeLine then some (.tup p.1,p.2) else none else none
noncomputable def ePt (r:Ev) (sc:Sc) (x:Option Expr) (vs:VS) (ob:OB):Option (Option Int × OB) :=
 match x with
 | none => some (none,ob)
 | some e => (r.e sc e vs ob).bind fun p => p.1.i?.bind fun i => some (some i,p.2)
noncomputable def eSlice (mut':Bool) (r:Ev) (sc:Sc) (value:Expr) (lo hi:Option Expr):FE:=fun vs ob =>
 (r.e sc value vs ob).bind fun p => (ePt r sc lo vs p.2).bind fun l => (ePt r sc hi vs l.2).bind fun h => (rdL h.2 p.1).bind fun xs =>
  if xs.length ≤ sizeLine then some (if mut' then (.loc h.2.length,h.2 ++ [.list (pick xs l.1 h.1)]) else (.lst (pick xs l.1 h.1),h.2)) else none
noncomputable def isSlice (e:Expr):Bool:=e.ctorIdx == 26
noncomputable def eSub (r:Ev) (sc:Sc) (value slice:Expr):FE:=fun vs ob =>
 if isSlice slice = true then none else (r.e sc value vs ob).bind fun p => (r.e sc slice vs p.2).bind fun q => q.1.i?.bind fun i => (subsF q.2 p.1 i).map fun z => (z,q.2)
noncomputable def eCmp (r:Ev) (sc:Sc) (l:Expr) (op:CmpOp) (y:Expr):FB:=fun vs ob =>
 if behindInMarks op y = true then none else (frz (r.e sc l) vs ob).bind fun p => (frz (r.e sc y) vs p.2).bind fun q => (copF op p.1 q.1).map fun z => (z,q.2)
noncomputable def noneC:Const → Bool
 | .none => true
 | _ => false
noncomputable def isNoneConst (e:Expr):Bool:=match e with
 | .Constant v _ _ => noneC v
 | _ => false
noncomputable def iCmp (r:Ev) (sc:Sc) (l:Expr) (op:CmpOp) (y:Expr):FB:=fun vs ob =>
 if ((op == .Is || op == .IsNot) && isNoneConst y) = true then
  (r.e sc l vs ob).bind fun p => match p.1.k? with
   | some _ => some (op == .IsNot,p.2)
   | none => (tr p.2 p.1).bind fun q => (copF op q.1 .none).map fun z => (z,q.2)
 else eCmp r sc l op y vs ob
noncomputable def rangeOk (a b:Int):Bool:=decide (-(2 ^ 40) ≤ a) && decide (a ≤ 2 ^ 40) && decide (-(2 ^ 40) ≤ b) && decide (b ≤ 2 ^ 40) && decide ((b - a).toNat ≤ sizeLine)
noncomputable def itsOf:AV → Option (List AV)
 | .lst xs => if xs.length ≤ sizeLine then some xs else none
 | .tup xs => if xs.length ≤ sizeLine then some xs else none
 | .str x => if x.cps.all (· < 128) = true ∧ x.cps.size ≤ sizeLine then some (signs x) else none
 | _ => none
noncomputable def itG (f:FE):FL:=fun vs ob => (frz f vs ob).bind fun p => (itsOf p.1).map fun xs => (xs,p.2)
noncomputable def itR1 (f:FE):FL:=fun vs ob => (f vs ob).bind fun p => p.1.i?.bind fun n => if rangeOk 0 n = true then some (rngAV 0 n,p.2) else none
noncomputable def itR2 (f g:FE):FL:=fun vs ob => (f vs ob).bind fun p => (g vs p.2).bind fun q => p.1.i?.bind fun m => q.1.i?.bind fun n => if rangeOk m n = true then some (rngAV m n,q.2) else none
noncomputable def itRev (f:FE):FL:=fun vs ob => (frz f vs ob).bind fun p => p.1.l?.bind fun xs => if xs.length ≤ sizeLine then some (xs.reverse,p.2) else none
inductive ItK where
 | range1 (a:Expr)
 | range2 (a b:Expr)
 | rev (a:Expr)
 | other
noncomputable def isTy (T:String) (o:Option AV):Bool:=(o.bind AV.ty?) == some T
noncomputable def itN (G:Gl) (sc:Sc) (x:Str) (args:List Expr):ItK :=
 match args with
 | [a] => if isStar a = true then .other else if isTy "range" (gName G sc x) = true then .range1 a else if isTy "reversed" (gName G sc x) = true then .rev a else .other
 | [a,b] => if (isStar a || isStar b) = true then .other else if isTy "range" (gName G sc x) = true then .range2 a b else .other
 | _ => .other
noncomputable def itC (G:Gl) (sc:Sc) (f:Expr) (args:List Expr):ItK :=
 match f with
 | .Name x _ => itN G sc x args
 | _ => .other
noncomputable def itK (G:Gl) (sc:Sc) (e:Expr):ItK :=
 match e with
 | .Call f args kws _ => if kws.isEmpty = true then itC G sc f args else .other
 | _ => .other
noncomputable def eIt (G:Gl) (r:Ev) (sc:Sc) (e:Expr):FL :=
 match itK G sc e with
 | .range1 a => itR1 (r.e sc a)
 | .range2 a b => itR2 (r.e sc a) (r.e sc b)
 | .rev a => itRev (r.e sc a)
 | .other => itG (r.e sc e)
inductive It0K where
 | items (o:Expr)
 | name
 | other
noncomputable def it0C (f:Expr) (args:List Expr) (kws:List Keyword) (pos:Pos):It0K :=
 match f with
 | .Attribute o name apos => if (args.isEmpty && kws.isEmpty && name == ("items" : Str) && !isBareCall o && (apos.endLine == pos.line)) = true then .items o else .other
 | _ => .other
noncomputable def it0K (e:Expr):It0K :=
 match e with
 | .Call f args kws pos => it0C f args kws pos
 | .Name .. => .name
 | _ => .other
noncomputable def AO.e?:AO → Option Unit
 | .list xs => if xs.isEmpty = true then some () else none
 | _ => none
noncomputable def AV.d?:AV → Option Unit
 | .edict => some ()
 | _ => Option.none
noncomputable def eIt0 (r:Ev) (sc:Sc) (e:Expr) (vs:VS) (ob:OB):Option OB :=
 match it0K e with
 | .items o => (r.e sc o vs ob).bind fun p => p.1.d?.bind fun _ => some p.2
 | .name => (r.e sc e vs ob).bind fun p => p.1.k?.bind fun j => (p.2[j]?.bind AO.e?).bind fun _ => some p.2
 | .other => none
inductive TgK where
 | one (i:Nat)
 | two (i j:Nat)
noncomputable def two? {α:Type}:List α → Option (α × α)
 | [a,b] => some (a,b)
 | _ => none
theorem twoI {α:Type} {l:List α} {p:α × α} (h:two? l = some p):l = [p.1,p.2]:=by
 rcases l with _ | ⟨a,_ | ⟨b,_ | ⟨c,l⟩⟩⟩
 ·exact noS h
 ·exact noS h
 ·exact Option.some.inj h ▸ rfl
 ·exact noS h
noncomputable def nm?:Expr → Option Str
 | .Name x _ => some x
 | _ => none
theorem nmI {e:Expr} {x:Str}:nm? e = some x → ∃ p,e = .Name x p:=by cases e <;> first | exact noS | exact fun h => ⟨_,congrArg (fun x => Expr.Name x _) (Option.some.inj h)⟩
noncomputable def eTg (sc:Sc) (e:Expr):Option TgK :=
 match e with
 | .Name x _ => (stIx sc x).map .one
 | .Tuple es _ _ => (two? es).bind fun q => (nm? q.1).bind fun x => (nm? q.2).bind fun y => (stIx sc x).bind fun i => (stIx sc y).map fun j => .two i j
 | _ => none
noncomputable def tgV (t:TgK) (a:AV) (vs:VS):Option VS :=
 match t with
 | .one i => some (setV vs i a)
 | .two i j => (a.t?.bind two?).map fun q => setV (setV vs i q.1) j q.2
noncomputable def forF (tg:TgK) (body orelse:FS):List AV → FS
 | [] => orelse
 | x :: xs => fun vs ob => (tgV tg x vs).bind fun vs₁ => (body vs₁ ob).bind fun p => match p.1 with
  | .next => forF tg body orelse xs p.2.1 p.2.2
  | .cont => forF tg body orelse xs p.2.1 p.2.2
  | .brk => some (.next,p.2.1,p.2.2)
  | .ret a => some (.ret a,p.2.1,p.2.2)
noncomputable def whileF (test:FB) (body orelse:FS):Nat → FS
 | 0 => fun _ _ => none
 | n + 1 => fun vs ob => (test vs ob).bind fun b => if b.1 then (body vs b.2).bind fun p => match p.1 with
   | .next => whileF test body orelse n p.2.1 p.2.2
   | .cont => whileF test body orelse n p.2.1 p.2.2
   | .brk => some (.next,p.2.1,p.2.2)
   | .ret a => some (.ret a,p.2.1,p.2.2)
  else orelse vs b.2
noncomputable def isSet (e:Expr):Bool:=e.ctorIdx == 7
noncomputable def relab (names inner:List (Str × NameKind)):List (Str × NameKind):=inner.map fun p => if p.2 == .free && names.lookup p.1 == some .cell then (p.1,.cell) else p
noncomputable def compSc (sc:Sc) (scope:Scope):Sc:={ names:=relab sc.names scope.names,own:=false,qual:=sc.qual,tb:=none,clo:=none }
noncomputable def compF (tg:TgK) (cond:FB) (elt:FE):List AV → List AV → FL
 | [],acc => fun _ ob => if acc.length ≤ sizeLine then some (acc,ob) else none
 | x :: xs,acc => fun vs ob => if acc.length < sizeLine then (tgV tg x vs).bind fun vs₁ => (cond vs₁ ob).bind fun b => if b.1 then (elt vs₁ b.2).bind fun y => if y.1.tree then compF tg cond elt xs (acc ++ [y.1]) vs₁ y.2 else none else compF tg cond elt xs acc vs₁ b.2 else none
noncomputable def ifsF (r:Ev) (sc:Sc):List Expr → Option FB
 | [] => some fun _ ob => some (true,ob)
 | [e] => some (r.i sc e)
 | _ => none
noncomputable def locOnce (s:Scope):Bool:=s.names.all fun p => p.2 != .cell
noncomputable def eComp1 (G:Gl) (r:Ev) (sc:Sc) (elt:Expr) (g:Comprehension) (scope:Scope):FE:=fun vs ob =>
 if ((scope.kind == .function) && distinct scope.names && locOnce scope && cloFree sc.names scope.names && !isSet g.iter && g.is_async == 0) = true then
  (eTg (compSc sc scope) g.target).bind fun tg => (ifsF r (compSc sc scope) g.ifs).bind fun cond =>
   (eIt G r sc g.iter vs ob).bind fun p => (compF tg cond (frz (r.e (compSc sc scope) elt)) p.1 [] (freeVS sc.names scope.names vs) p.2).map fun q => (.lst q.1,q.2)
 else none
noncomputable def eComp (G:Gl) (r:Ev) (sc:Sc) (elt:Expr) (gens:List Comprehension) (scope:Scope):FE :=
 match gens with
 | [g] => eComp1 G r sc elt g scope
 | _ => fun _ _ => none
noncomputable def eConst (v:Const):FE:=fun _ ob =>
 match v with
 | .int i => some (.int i,ob)
 | .str x => some (.str x,ob)
 | .bool b => some (.bool b,ob)
 | .none => some (.none,ob)
 | _ => none
noncomputable def eUn (r:Ev) (sc:Sc) (op:UnaryOp) (x:Expr):FE:=fun vs ob =>
 match op with
 | .USub => (r.e sc x vs ob).bind fun p => p.1.i?.bind fun i => some (.int (-i),p.2)
 | .Invert => (r.e sc x vs ob).bind fun p => p.1.i?.bind fun i => some (.int (Builtin.bitNot i),p.2)
 | .Not => none
 | .UAdd => none
noncomputable def eOr (r:Ev) (sc:Sc) (op:BoolOp) (xs:List Expr):FE:=fun vs ob =>
 match op,xs with
 | .Or,[x,y] => (r.e sc x vs ob).bind fun p => p.1.b?.bind fun b => if b = true then some (.bool true,p.2) else r.e sc y vs p.2
 | _,_ => none
noncomputable def eCmps (r:Ev) (sc:Sc) (l:Expr) (ops:List CmpOp) (ys:List Expr):FB :=
 match ops,ys with
 | [op],[y] => eCmp r sc l op y
 | _,_ => fun _ _ => none
noncomputable def eCalls (G:Gl) (r:Ev) (sc:Sc) (f:Expr) (args:List Expr) (kws:List Keyword) (pos:Pos):FE :=
 match f with
 | .Name x _ => if kws.isEmpty = true then gcE (eCall G r sc x args) else fun _ _ => none
 | .Attribute o name apos => gcE (eMeth G r sc o name apos args kws pos)
 | _ => fun _ _ => none
noncomputable def sliceOf (s:Expr):Option (Option Expr × Option Expr) :=
 match s with
 | .Slice lo hi st _ => if st.isNone = true then some (lo,hi) else none
 | _ => none
theorem sliceI {s:Expr} {q:Option Expr × Option Expr}:sliceOf s = some q → ∃ p,s = .Slice q.1 q.2 none p:=by
 cases s with
 | Slice lo hi st p =>
  intro h
  have h:=ifS h
  exact ⟨p,h.2 ▸ Option.isNone_iff_eq_none.mp h.1 ▸ rfl⟩
 | _ => exact noS
noncomputable def eSubs (r:Ev) (sc:Sc) (value slice:Expr):FE :=
 match sliceOf slice with
 | some q => eSlice false r sc value q.1 q.2
 | none => eSub r sc value slice
noncomputable def eStep (G:Gl) (r:Ev) (sc:Sc) (e:Expr):FE :=
 match e with
 | .Name x _ => evName G sc x
 | .Constant v _ _ => eConst v
 | .BinOp l op y _ => eBin r sc l op y
 | .UnaryOp op x _ => eUn r sc op x
 | .BoolOp op xs _ => eOr r sc op xs
 | .IfExp t b o _ => fun vs ob => (r.i sc t vs ob).bind fun p => if p.1 then r.e sc b vs p.2 else r.e sc o vs p.2
 | .Compare l ops ys _ => fun vs ob => (eCmps r sc l ops ys vs ob).map fun p => (.bool p.1,p.2)
 | .Call f args kws pos => eCalls G r sc f args kws pos
 | .Attribute value name _ => eAttr G r sc value name
 | .Subscript value slice _ => eSubs r sc value slice
 | .List es _ => if es.isEmpty = true then eLstM r sc [] else eLst r sc es
 | .Tuple es _ _ => eTup r sc es
 | .ListComp elt gens scope _ => eComp G r sc elt gens scope
 | _ => fun _ _ => none
noncomputable def plainTest (e:Expr):Bool:=[2,16,19,20,21,23].contains e.ctorIdx
noncomputable def iCmps (r:Ev) (sc:Sc) (l:Expr) (ops:List CmpOp) (ys:List Expr):FB :=
 match ops,ys with
 | [op],[y] => iCmp r sc l op y
 | _,_ => fun _ _ => none
noncomputable def iOr2 (r:Ev) (sc:Sc) (op:BoolOp) (xs:List Expr):FB:=fun vs ob =>
 match op,xs with
 | .Or,[x,y] => (r.i sc x vs ob).bind fun p => if p.1 then some (true,p.2) else r.i sc y vs p.2
 | _,_ => none
noncomputable def iStep (_G:Gl) (r:Ev) (sc:Sc) (e:Expr):FB :=
 match e with
 | .Compare l ops ys _ => iCmps r sc l ops ys
 | .UnaryOp op x _ => fun vs ob => if op = .Not then (r.i sc x vs ob).map fun p => (!p.1,p.2) else none
 | .BoolOp op xs _ => iOr2 r sc op xs
 | e => if plainTest e then fun vs ob => (frz (r.e sc e) vs ob).bind fun p => (truF p.1).map fun b => (b,p.2) else fun _ _ => none
noncomputable def eMut (G:Gl) (r:Ev) (sc:Sc) (e:Expr):FE :=
 match e with
 | .ListComp elt gens scope _ => eComp G r sc elt gens scope
 | .SetComp .. => fun _ _ => none
 | .DictComp .. => fun _ _ => none
 | .List es _ => eLstM r sc es
 | .BinOp l op y _ => eBinM r sc l op y
 | .Subscript value slice _ => (match sliceOf slice with | some q => eSlice true r sc value q.1 q.2 | none => r.e sc e)
 | _ => r.e sc e
noncomputable def notConsts (e:Expr):Bool :=
 match e with
 | .Tuple vs _ _ => !(vs.all (constantsAlone 8))
 | _ => true
noncomputable def notTup (e:Expr):Bool:=e.ctorIdx != 25
noncomputable def isLC (e:Expr):Bool:=e.ctorIdx == 8
noncomputable def AO.n?:AO → Option (Addr × List Str × List AV)
 | .inst C ns xs => some (C,ns,xs)
 | _ => none
theorem AO.nI {o:AO} {q:Addr × List Str × List AV}:o.n? = some q → o = .inst q.1 q.2.1 q.2.2:=by cases o <;> first | exact noS | exact fun h => Option.some.inj h ▸ rfl
noncomputable def sAttrA (r:Ev) (sc:Sc) (G:Gl) (o:Expr) (name:Str) (e:Expr):FS:=fun vs ob =>
 if isLC e = true then none else (r.e sc e vs ob).bind fun y => (r.e sc o vs y.2).bind fun a => a.1.k?.bind fun j => (a.2[j]?.bind AO.n?).bind fun q =>
  if isData y.1 = true ∧ q.2.1.length ≤ sizeLine ∧ G.plain q.1 name = true then some (.next,vs,a.2.set j (.inst q.1 (name :: q.2.1) (y.1 :: q.2.2))) else none
noncomputable def sSubA (r:Ev) (sc:Sc) (o i e:Expr):FS:=fun vs ob =>
 if isLC e = true then none else (frz (r.e sc e) vs ob).bind fun y => (r.e sc o vs y.2).bind fun a => (r.e sc i vs a.2).bind fun b => a.1.k?.bind fun j => b.1.i?.bind fun m => (b.2[j]?.bind AO.l?).bind fun xs =>
  (setIx xs m y.1).map fun xs' => (.next,vs,b.2.set j (.list xs'))
noncomputable def sTupA (r:Ev) (sc:Sc) (es:List Expr) (e:Expr):FS:=fun vs ob =>
 (two? es).bind fun q => (nm? q.1).bind fun x => (nm? q.2).bind fun y => (stIx sc x).bind fun i => (stIx sc y).bind fun j =>
  if i ≠ j ∧ notConsts e = true then (r.e sc e vs ob).bind fun p => match p.1 with
   | .tup l => (two? l).bind fun z => some (.next,setV (setV vs i z.1) j z.2,p.2)
   | .lst l => (two? l).bind fun z => if notTup e then some (.next,setV (setV vs i z.1) j z.2,p.2) else none
   | _ => none
  else none
noncomputable def sNameA (r:Ev) (sc:Sc) (G:Gl) (x:Str) (e:Expr):FS:=fun vs ob => (stIx sc x).bind fun i => (eMut G r sc e vs ob).bind fun p => some (.next,setV vs i p.1,p.2)
noncomputable def sThree (r:Ev) (sc:Sc) (a b c e:Expr):FS:=fun vs ob =>
 (nm? a).bind fun x => (nm? b).bind fun y => (nm? c).bind fun z => (stIx sc x).bind fun i => (stIx sc y).bind fun j => (stIx sc z).bind fun l =>
  (r.e sc e vs ob).bind fun p => if p.1.tree = true then some (.next,setV (setV (setV vs i p.1) j p.1) l p.1,p.2) else none
noncomputable def sOne (r:Ev) (sc:Sc) (G:Gl) (t e:Expr):FS :=
 match t with
 | .Name x _ => sNameA r sc G x e
 | .Attribute o name _ => sAttrA r sc G o name e
 | .Subscript o i _ => sSubA r sc o i e
 | .Tuple es _ _ => sTupA r sc es e
 | _ => fun _ _ => none
noncomputable def sAssign (r:Ev) (sc:Sc) (G:Gl) (targets:List Expr) (e:Expr):FS :=
 match targets with
 | [t] => sOne r sc G t e
 | [a,b,c] => sThree r sc a b c e
 | _ => fun _ _ => none
noncomputable def sAugN (r:Ev) (sc:Sc) (x:Str) (op:Operator) (e:Expr):FS:=fun vs ob =>
 (ldIx sc x).bind fun i => (stIx sc x).bind fun j => if i = j then (getV vs i).bind fun a => if a.tree = true then (frz (r.e sc e) vs ob).bind fun p => (iopF op a p.1).map fun z => (.next,setV vs i (.int z),p.2) else none else none
noncomputable def sAugI (r:Ev) (sc:Sc) (o i:Expr) (op:Operator) (e:Expr):FS:=fun vs ob =>
 if isSlice i = true then none else (r.e sc o vs ob).bind fun a => (r.e sc i vs a.2).bind fun b => a.1.k?.bind fun j => b.1.i?.bind fun m => (rdL b.2 (.loc j)).bind fun xs => (getIx xs m).bind fun x =>
  if x.tree = true then (frz (r.e sc e) vs b.2).bind fun y => (iopF op x y.1).bind fun z => (y.2[j]?.bind AO.l?).bind fun ys => (setIx ys m (.int z)).map fun ys' => (.next,vs,y.2.set j (.list ys')) else none
noncomputable def sAug (r:Ev) (sc:Sc) (target:Expr) (op:Operator) (e:Expr):FS :=
 match target with
 | .Name x _ => sAugN r sc x op e
 | .Subscript o i _ => sAugI r sc o i op e
 | _ => fun _ _ => none
noncomputable def isComp (e:Expr):Bool:=[8,9,10].contains e.ctorIdx
noncomputable def sDef (sc:Sc) (name:Str) (params:Arguments) (body:List Stmt) (scope:Scope) (pos:Pos):FS:=fun vs ob =>
 sc.tb.bind fun t => (stIx sc name).bind fun i => (cloPs params).bind fun _ =>
  if (decide (t.l = pos.line) && decide (t.k = pos.col) && (sc.qual ++ name == t.q) && cloFree sc.names scope.names) = true then some (.next,setV vs i (.clo ⟨name,params,body,scope⟩),ob) else none
noncomputable def sRetF (r:Ev) (sc:Sc) (e:Expr):FE :=
 match e with
 | .Subscript value slice _ => (match sliceOf slice with | some q => eSlice true r sc value q.1 q.2 | none => r.e sc e)
 | _ => r.e sc e
noncomputable def sFor (G:Gl) (r:Ev) (sc:Sc) (target iter:Expr) (body orelse:List Stmt):FS:=fun vs ob =>
 if isSet iter = true then none else (eTg sc target).bind fun tg => match eIt0 r sc iter vs ob with
  | some ob' => ss (r.s sc) orelse vs ob'
  | none => (eIt G r sc iter vs ob).bind fun p => forF tg (ss (r.s sc) body) (ss (r.s sc) orelse) p.1 vs p.2
noncomputable def sStep (G:Gl) (r:Ev) (sc:Sc) (st:Stmt):FS :=
 match st with
 | .Assign targets e _ => sAssign r sc G targets e
 | .AugAssign target op e _ => sAug r sc target op e
 | .Return x _ => (match x with | none => fun vs ob => some (.ret .none,vs,ob) | some e => fun vs ob => (sRetF r sc e vs ob).map fun p => (.ret p.1,vs,p.2))
 | .If t body orelse _ => fun vs ob => (r.i sc t vs ob).bind fun p => ss (r.s sc) (if p.1 then body else orelse) vs p.2
 | .For target iter body orelse _ => sFor G r sc target iter body orelse
 | .While t body orelse _ => whileF (r.i sc t) (ss (r.s sc) body) (ss (r.s sc) orelse) 8
 | .Expr e _ => fun vs ob => if isComp e = true then none else (r.e sc e vs ob).map fun p => (.next,vs,p.2)
 | .Break _ => fun vs ob => some (.brk,vs,ob)
 | .Pass _ => fun vs ob => some (.next,vs,ob)
 | .FunctionDef name params body decs rets tps scope tscope bind pos => fun vs ob => if (decs.isEmpty && rets.isNone && tps.isEmpty && tscope.isNone && name == bind) = true then sDef sc name params body scope pos vs ob else none
 | _ => fun _ _ => none
noncomputable def evBot:Ev:=⟨fun _ _ _ _ => none,fun _ _ _ _ => none,fun _ _ _ _ => none⟩
noncomputable def evStep (G:Gl) (r:Ev):Ev:=⟨eStep G r,iStep G r,sStep G r⟩
noncomputable def ev (G:Gl):Nat → Ev
 | 0 => evBot
 | n + 1 => evStep G (ev G n)
end
section
variable {W:Wd} {c:Cx} {hid:List Addr}
noncomputable def runE (f:FE):TE:=fun vs ob k => ∃ a ob',f vs ob = some (a,ob') ∧ k a ob'
noncomputable def runB (f:FB):TB:=fun vs ob k => ∃ a ob',f vs ob = some (a,ob') ∧ k a ob'
noncomputable def runL (f:FL):TEs:=fun vs ob k => ∃ a ob',f vs ob = some (a,ob') ∧ k a ob'
noncomputable def runS (f:FS):TS:=fun vs ob k => ∃ a vs' ob',f vs ob = some (a,vs',ob') ∧ k a vs' ob'
theorem runE.go {f:FE} {vs:VS} {ob:OB} {k:AV → OB → Prop} {P:Prop} (x:runE f vs ob k) (h:∀ a ob',f vs ob = some (a,ob') → k a ob' → P):P:=x.elim fun a x => x.elim fun b x => h a b x.1 x.2
theorem runB.go {f:FB} {vs:VS} {ob:OB} {k:Bool → OB → Prop} {P:Prop} (x:runB f vs ob k) (h:∀ a ob',f vs ob = some (a,ob') → k a ob' → P):P:=x.elim fun a x => x.elim fun b x => h a b x.1 x.2
theorem runL.go {f:FL} {vs:VS} {ob:OB} {k:List AV → OB → Prop} {P:Prop} (x:runL f vs ob k) (h:∀ a ob',f vs ob = some (a,ob') → k a ob' → P):P:=x.elim fun a x => x.elim fun b x => h a b x.1 x.2
theorem runS.go {f:FS} {vs:VS} {ob:OB} {k:AF → VS → OB → Prop} {P:Prop} (x:runS f vs ob k) (h:∀ a vs' ob',f vs ob = some (a,vs',ob') → k a vs' ob' → P):P:=x.elim fun a x => x.elim fun vs' x => x.elim fun b x => h a vs' b x.1 x.2
theorem pairK {α β:Type} {k:α → β → Prop} {p:α × β} {a:α} {b:β} (e:p = (a,b)) (hk:k a b):k p.1 p.2:=by cases e; exact hk
theorem tripK {α β γ:Type} {k:α → β → γ → Prop} {p:α × β × γ} {a:α} {b:β} {c:γ} (e:p = (a,b,c)) (hk:k a b c):k p.1 p.2.1 p.2.2:=by cases e; exact hk
theorem posOf_ok {x:Str} {l:List (Str × NameKind)}:∀ {i:Nat} {k:NameKind},posOf x l = some (i,k) → l[i]? = some (x,k) ∧ l.lookup x = some k:=by
 induction l with
 | nil => exact fun h => nomatch h
 | cons q r ih =>
  intro i k h
  by_cases e:(x == q.1) = true
  ·obtain ⟨y,k'⟩:=q
   obtain rfl:=eq_of_beq e
   obtain ⟨rfl,rfl⟩:=Prod.mk.inj (Option.some.inj (ifP e h))
   exact ⟨rfl,List.lookup_cons_self⟩
  ·exact mapE (ifQ e h) fun p hp e2 => by
    obtain ⟨rfl,rfl⟩:=Prod.mk.inj e2
    exact ⟨(ih hp).1,List.lookup_cons.trans ((by rw [eq_false_of_ne_true e]:(match x == q.1 with | true => some q.2 | false => r.lookup x) = r.lookup x).trans (ih hp).2)⟩
theorem posOf_of {x:Str} {l:List (Str × NameKind)} {k:NameKind} (h:l.lookup x = some k):∃ i,posOf x l = some (i,k):=by
 induction l with
 | nil => exact nomatch h
 | cons q r ih =>
  rw [List.lookup_cons] at h
  show ∃ i,(if (x == q.1) = true then some (0,q.2) else (posOf x r).map fun p => (p.1 + 1,p.2)) = some (i,k)
  cases e:x == q.1 with
  | true => rw [e] at h; exact ⟨0,congrArg (fun z => some (0,z)) (Option.some.inj h)⟩
  | false =>
   rw [e] at h
   exact (ih h).elim fun i hi => ⟨i + 1,(congrArg (Option.map _) hi)⟩
noncomputable def Wd.pm (W:Wd):Value:=(W.mg "__name__").getD .none
structure CtxOk (W:Wd) (c:Cx) (sc:Sc):Prop where
 names:c.env.scope.names = sc.names
 kind:c.env.scope.kind = .function
 own:sc.own = true → ∀ x i,posOf x sc.names = some (i,.cell) → ∃ cc,c.env.cells.lookup x = some cc ∧ cc ∈ c.own
 cells:∀ x i k,posOf x sc.names = some (i,k) → (k = .cell ∨ k = .free) → ∃ cc,c.env.cells.lookup x = some cc
 tb:∀ t,sc.tb = some t → t ∈ W.tbs ∧ c.env.code = .ref t.c ∧ c.isclo = cloC c.env.cells t.q W.pm ∧ W.h₀.BuiltinsAt W.mg t.P ∧ c.env.qual = sc.qual
 clo:∀ q,sc.clo = some q → ∃ cells₀,c.isclo = cloC cells₀ q W.pm ∧ ∀ x i k,posOf x sc.names = some (i,k) → (k = .cell ∨ k = .free) → cells₀.lookup x = c.env.cells.lookup x
structure FIok (W:Wd) (a:Addr) (fi:FI):Prop where
 fn:FunOk W a fi.fd fi.body fi.ps
 is:fi.ps.mapM (stIx (fsc fi)) = some fi.is
 bind:fi.kwd = false → fi.ps.length = fi.npos + fi.kwn.length ∧ ∀ (s:Shared) (us ks:List Value),(∀ b o,W.h₀.get? b = some o → s.heap.get? b = some o) → us.length = fi.npos → ks.length = fi.kwn.length → BindsTo s fi.fd ⟨us,fi.kwn.zip ks⟩ (fi.ps.zip (us ++ ks))
 bindD:fi.kwd = true → fi.ps.length = fi.npos + 1 ∧ fi.kwn = [] ∧ ∀ (us:List Value),us.length = fi.npos → bindArgs fi.fd ⟨us,[]⟩ = (alloc emptyO >>= fun d => pure (fi.ps.zip (us ++ [.ref d])))
 nofree:∀ p ∈ fi.fd.scope.names,p.2 ≠ .free
 tb:∀ t,fi.tb = some t → t ∈ W.tbs ∧ fi.fd.code = .ref t.c ∧ W.h₀.BuiltinsAt W.mg t.P
structure GlOk (W:Wd) (G:Gl):Prop where
 nd:W.tP.Nodup
 low:sysModules < W.h₀.objs.size
 name:∀ x av,G.name x = some av → ∃ v,(∀ g,TV g av v) ∧ (W.mg x = some v ∨ (W.mg x = none ∧ W.mb x = some v))
 fn:∀ a fi,G.fn a = some fi → FIok W a fi
 meth:∀ C name f,G.meth C name = some f → MethOk W C name f
 init:∀ C fI,G.init C = some fI → ∃ N mN,ClsOk W C N mN ∧ mN "__init__" = some (.ref fI) ∧ ∃ o,W.h₀.get? fI = some o ∧ o.cls = .type "function"
 plain:∀ C name,G.plain C name = true → ∃ N mN,ClsOk W C N mN ∧ mN name = none ∧ typeLookup (.type "object") name = pure none
 cattr:∀ C name av,G.cattr C name = some av → ∃ v,ClsAttr W C name v ∧ ∀ g,TV g av v
 pats:∀ p ∈ G.pats,∃ code,PatOk W p code
 dict:DictOk W G.dict G.dmap
 dictTy:∃ o,W.h₀.get? G.dict = some o ∧ o.cls = .type "dict" ∧ o.dict = none
theorem E.ext {e:Expr} {f g:FE} (h:E W c e (runE f)) (hfg:∀ vs ob p,g vs ob = some p → f vs ob = some p):E W c e (runE g):=h.mono fun vs ob k z0 => z0.go fun a ob' e hk => ⟨a,ob',hfg _ _ _ e,hk⟩
theorem E.never {e:Expr} {f:FE} (h:∀ vs ob,f vs ob = Option.none):E W c e (runE f):=E.of fun vs ob k z0 => z0.go fun a ob' e _ => by (first | exact noO h e | exact noI h e | (rw [h] at e; cases e))
theorem Is.never {e:Expr} {f:FB} (h:∀ vs ob,f vs ob = Option.none):Is W c e (runB f):=Is.of fun vs ob k z0 => z0.go fun a ob' e _ => by (first | exact noO h e | exact noI h e | (rw [h] at e; cases e))
theorem Run.never {t:Sem Flow} {f:FS} (h:∀ vs ob,f vs ob = Option.none):Run W c t (runS f):=Run.of fun vs ob k z0 => z0.go fun a vs' ob' e _ => by (first | exact noO h e | exact noI h e | (rw [h] at e; cases e))
theorem frzR {e:Expr} {f:FE} (h:E W c e (runE f)):E W c e (runE (frz f)):=(E.frz h).mono fun vs ob k z0 => z0.go fun a ob' e hk => by
 obtain ⟨p,e1,e2⟩:=bindS e
 exact ⟨p.1,p.2,e1,a,ob',e2,hk⟩
theorem frzOR {e:Expr} {f:FE} (h:E W c e (runE f)):E W c e (runE (frzO f)):=E.of fun vs ob k z0 => z0.go fun a ob' e hk => by
 obtain ⟨p,e1,e2⟩:=bindS e
 cases q:tr p.2 p.1 with
 | some z =>
  rw [q] at e2
  cases e2
  refine ⟨runE (frz f),⟨a,ob',?_,hk⟩,frzR h⟩
  unfold frz
  rw [e1]
  exact q
 | none =>
  rw [q] at e2
  cases e2
  exact ⟨runE f,⟨a,ob',e1,hk⟩,h⟩
theorem frz_tree {f:FE} {vs ob a ob'} (e:frz f vs ob = some (a,ob')):a.tree = true:=by
 obtain ⟨p,_,e2⟩:=bindS e
 exact tr_tree e2
theorem consE {α β γ:Type} {x:Option (α × β)} {f:β → Option (List α × γ)} {P:List α → γ → Prop} {a:List α} {o:γ} (e:(x.bind fun p => (f p.2).bind fun q => some (p.1 :: q.1,q.2)) = some (a,o)) (h:P a o):∃ a b,x = some (a,b) ∧ ∃ c d,f b = some (c,d) ∧ P (a :: c) d :=
 bindE e fun p e1 e => bindE e fun q e3 e => ⟨p.1,p.2,e1,q.1,q.2,e3,pairK (Option.some.inj e) h⟩
theorem evsR {f:Expr → FE} (h:∀ e,E W c e (runE (f e))) {es:List Expr}:noStar es = true → Es W c es (runL (evs f es)):=by
 induction es with
 | nil => exact fun _ => Es.nil.mono fun _ _ _ x => x.elim fun _ x => x.elim fun _ x => pairK (Option.some.inj x.1) x.2
 | cons e es ih => exact fun hn => (Es.cons (h e) (ih (and2 hn).2) (starEach_cons (not1 (and2 hn).1))).mono fun _ _ _ x => x.elim fun _ x => x.elim fun _ x => consE x.1 x.2
theorem evkR {f:Expr → FE} (h:∀ e,E W c e (runE (f e))) (es:List Keyword):Ks W c es (runL (evk f es)):=by
 induction es with
 | nil => exact fun A hid vs ob k s as pos Q hA ht R hQ => Ks.nil A hid vs ob k s as pos Q hA (ht.elim fun _ x => x.elim fun _ x => pairK (Option.some.inj x.1) x.2) R hQ
 | cons e es ih => cases e with | mk nm e p => exact fun A hid vs ob k s as pos Q hA ht R hQ => Ks.cons (h e) ih A hid vs ob k s as pos Q hA (ht.elim fun _ x => x.elim fun _ x => consE x.1 x.2) R hQ
set_option backward.match.sparseCases false in
theorem nextK {fl:AF} {x:Option (AF × VS × OB)} {vs:VS} {ob:OB} {k:AF → VS → OB → Prop} {a:AF} {vs':VS} {ob':OB} (e:(match fl with | .next => x | a => some (a,vs,ob)) = some (a,vs',ob')) (hk:k a vs' ob'):match (generalizing:=false) fl with | .next => (∃ a vs' ob',x = some (a,vs',ob') ∧ k a vs' ob') | f => k f vs ob:=by
 cases fl with
 | next => exact ⟨_,_,_,e,hk⟩
 | _ => exact tripK (Option.some.inj e) hk
theorem ssR {f:Stmt → FS} (h:∀ st,S W c st (runS (f st))) (sts:List Stmt):Ss W c sts (runS (ss f sts)):=by
 induction sts with
 | nil => exact Ss.nil.mono fun _ _ _ x => x.elim fun _ x => x.elim fun _ x => x.elim fun _ x => tripK (Option.some.inj x.1) x.2
 | cons st sts ih => exact (Ss.cons (gcRun (h st)) ih).mono fun _ _ _ x => x.elim fun _ x => x.elim fun _ x => x.elim fun _ x => bindE x.1 fun p e1 e2 => ⟨p.1,p.2.1,p.2.2,e1,nextK (fl:=p.1) (x:=ss f sts p.2.1 p.2.2) (vs:=p.2.1) (ob:=p.2.2) e2 x.2⟩
theorem E.globA {x:Str} {pos:Pos} {v:Value} {av:AV} (hx:c.env.scope.names.lookup x = some .globalImplicit) (hg:W.mg x = some v ∨ (W.mg x = Option.none ∧ W.mb x = some v)) (hv:∀ g,TV g av v) (hd:(x == ("__debug__" : Str)) = false) :
  E W c (.Name x pos) (fun _ ob k => k av ob):=fun A _ _ _ _ s _ _ _ hk R hQ =>
 Name_function_global R.ok.kind hx (by
  have fin:=hQ v s.heap s.toks _ _ _ hk R (VV.of (hv _)) .refl .refl
  rcases hg with hg | ⟨hg,hb⟩
  ·exact loadGlobal_global (by rw [R.ok.glob]; exact W.g.keeps R.base.sub) hg fin
  ·exact loadGlobal_builtin (by rw [R.ok.glob]; exact W.g.keeps R.base.sub) hg (by rw [R.ok.blt]; exact W.b.keeps R.base.sub) hb fin) hd
theorem ldKI {k:NameKind}:ldK k = true → k = .local ∨ k = .cell ∨ k = .free:=by cases k <;> decide
theorem glKI {k:NameKind}:glK k = true → k = .globalImplicit:=by cases k <;> decide
theorem stKI {k:NameKind} {o:Bool}:stK o k = true → k = .local ∨ (k = .cell ∧ o = true):=by cases k <;> cases o <;> decide
theorem cfKI {k:NameKind}:cfK k = true → k = .cell ∨ k = .free:=by cases k <;> decide
theorem gName_ok {G:Gl} {sc:Sc} {x:Str} {av:AV} (H:GlOk W G) (X:CtxOk W c sc) (h:gName G sc x = some av) {pos:Pos}:E W c (.Name x pos) (fun _ ob k => k av ob) :=
 have h:=ifF h
 bindE h.2 fun p hp e =>
  have e:=ifT e
  (H.name x av e.2).elim fun _ hv => E.globA (X.names ▸ (posOf_ok hp).2.trans (congrArg some (glKI e.1))) hv.2 hv.1 (eq_false_of_ne_true h.1)
theorem ldIx_ok {sc:Sc} {x:Str} {i:Nat} (X:CtxOk W c sc) (h:ldIx sc x = some i) {pos:Pos}:E W c (.Name x pos) (fun vs ob k => ∃ av,getV vs i = some av ∧ k av ob) ∧ Ld W c x i:=by
 obtain ⟨hd,h⟩:=ifF h
 rw [Bool.not_eq_true,Bool.or_eq_false_iff] at hd
 refine bindE h fun p hp e => ?_
 obtain ⟨hk,rfl⟩:=ifS e
 have q:=X.names ▸ posOf_ok hp
 exact ⟨E.var _ _ q.1 q.2 hd.1 hd.2 (ldKI hk),Ld.mk _ _ q.1 q.2 hd.2 (ldKI hk)⟩
theorem stIx_ok {sc:Sc} {x:Str} {i:Nat} (X:CtxOk W c sc) (h:stIx sc x = some i):St W c x i:=by
 refine bindE h fun p hp e => ?_
 obtain ⟨hk,rfl⟩:=ifS e
 obtain ⟨i,k⟩:=p
 have q:=X.names ▸ posOf_ok hp
 rcases stKI hk with rfl | ⟨rfl,ho⟩
 ·exact St.local _ q.1 q.2
 ·obtain ⟨cc,ec,hc⟩:=X.own ho _ _ hp
  exact St.cell _ q.1 q.2 (fun cc' e' => Option.some.inj (ec.symm.trans e') ▸ hc) (by rw [ec]; rfl)
theorem evNameR {G:Gl} {sc:Sc} {x:Str} {pos:Pos} (H:GlOk W G) (X:CtxOk W c sc):E W c (.Name x pos) (runE (evName G sc x)):=by
 unfold evName
 cases hd:x == ("__debug__" : Str) with
 | true => exact (E.debug hd).mono fun vs ob k z0 => z0.go fun a ob' e hk => by simp at e; obtain ⟨rfl,rfl⟩:=e; exact hk
 | false =>
  cases hl:ldIx sc x with
  | some i =>
   exact (ldIx_ok X hl).1.mono fun vs ob k z0 => z0.go fun a ob' e hk => by
    simp only [Bool.false_eq_true,if_false] at e
    obtain ⟨av,e1,e2⟩:=mapS e
    cases e2
    exact ⟨_,e1,hk⟩
  | none =>
   cases hg:gName G sc x with
   | some av => exact (gName_ok H X hg).mono fun vs ob k z0 => z0.go fun a ob' e hk => by simp at e; obtain ⟨rfl,rfl⟩:=e; exact hk
   | none => exact E.never fun vs ob => by simp
end
section
variable {W:Wd} {c:Cx} {hid:List Addr}
theorem boxK {α β:Type} {k:α → β → Prop} {p:α × β} {a:α} {b:β} (e:some p = some (a,b)) (hk:k a b):k p.1 p.2:=pairK (Option.some.inj e) hk
theorem boxT {α β γ:Type} {k:α → β → γ → Prop} {p:α × β × γ} {a:α} {b:β} {c:γ} (e:some p = some (a,b,c)) (hk:k a b c):k p.1 p.2.1 p.2.2:=tripK (Option.some.inj e) hk
variable {G:Gl} {r:Ev} {sc:Sc}
theorem eBinR (h:∀ e,E W c e (runE (r.e sc e))) {l y:Expr} {op:Operator} {pos:Pos}:E W c (.BinOp l op y pos) (runE (eBin r sc l op y)) :=
 (E.bin (bop_ok op) (frzR (h l)) (frzR (h y))).mono fun vs ob k z0 => z0.go fun a ob' e hk =>
  bindE e fun p e1 e => bindE e fun q e3 e => mapE e fun z e5 e => ⟨p.1,p.2,e1,q.1,q.2,e3,frz_tree e1,frz_tree e3,z,e5,pairK e hk⟩
theorem eBinMR (h:∀ e,E W c e (runE (r.e sc e))) {l y:Expr} {op:Operator} {pos:Pos}:E W c (.BinOp l op y pos) (runE (eBinM r sc l op y)):=E.of fun vs ob k z0 => z0.go fun a ob' e hk =>
 bindE e fun p e1 e => bindE e fun q e3 e => by
  revert e
  cases hm:mop op p.1 q.1 with
  | some zs => exact fun e => ⟨_,⟨p.1,p.2,e1,q.1,q.2,e3,frz_tree e1,frz_tree e3,zs,hm,boxK e hk⟩,E.mbin (frzR (h l)) (frzR (h y))⟩
  | none => exact fun e => mapE e fun z e5 e => ⟨_,⟨p.1,p.2,e1,q.1,q.2,e3,frz_tree e1,frz_tree e3,z,e5,pairK e hk⟩,E.bin (bop_ok op) (frzR (h l)) (frzR (h y))⟩
theorem eLstR (h:∀ e,E W c e (runE (r.e sc e))) {es:List Expr} {pos:Pos}:E W c (.List es pos) (runE (eLst r sc es)):=E.of fun vs ob k z0 => z0.go fun a ob' e hk =>
 have ⟨hn,e⟩:=ifT e
 bindE e fun p e1 e => have ⟨q,e⟩:=ifS e; ⟨_,⟨p.1,p.2,e1,q.1,q.2,pairK e hk⟩,E.lst (evsR (fun e => frzR (h e)) hn)⟩
theorem eLstMR (h:∀ e,E W c e (runE (r.e sc e))) {es:List Expr} {pos:Pos}:E W c (.List es pos) (runE (eLstM r sc es)):=E.of fun vs ob k z0 => z0.go fun a ob' e hk =>
 have ⟨hn,e⟩:=ifT e
 bindE e fun p e1 e => have ⟨q,e⟩:=ifS e; ⟨_,⟨p.1,p.2,e1,q.1,q.2,pairK e hk⟩,E.mlst (evsR (fun e => frzR (h e)) hn)⟩
theorem eTupR (h:∀ e,E W c e (runE (r.e sc e))) {es:List Expr} {kk:Nat} {pos:Pos}:E W c (.Tuple es kk pos) (runE (eTup r sc es)):=E.of fun vs ob k z0 => z0.go fun a ob' e hk =>
 have ⟨hn,e⟩:=ifT e
 bindE e fun p e1 e => have ⟨q,e⟩:=ifS e; ⟨_,⟨p.1,p.2,e1,q.1,q.2,pairK e hk⟩,E.tup (evsR (fun e => frzR (h e)) hn)⟩
theorem ePtR (h:∀ e,E W c e (runE (r.e sc e))) (x:Option Expr):Pt W c x (fun vs ob k => ∃ l ob',ePt r sc x vs ob = some (l,ob') ∧ k l ob'):=by
 intro A hid vs ob k s as Q hA ⟨l,ob',e,hk⟩ R hQ
 cases x with
 | none => exact Pt.none A hid vs ob k s as Q hA (boxK e hk) R hQ
 | some x => exact bindE e fun p e1 e => bindE e fun i ei e => Pt.some (h x) A hid vs ob k s as Q hA ⟨p.1,p.2,e1,i,AV.iI ei,boxK e hk⟩ R hQ
theorem eSliceR (h:∀ e,E W c e (runE (r.e sc e))) {value:Expr} {lo hi:Option Expr} {p pos:Pos} (m:Bool):E W c (.Subscript value (.Slice lo hi Option.none p) pos) (runE (eSlice m r sc value lo hi)):=E.of fun vs ob k z0 => z0.go fun a ob' e hk =>
 bindE e fun q e1 e => bindE e fun l e2 e => bindE e fun u e3 e => bindE e fun xs e4 e => have ⟨hs,e⟩:=ifS e; by
  cases m with
  | false => exact ⟨_,⟨q.1,q.2,e1,l.1,l.2,e2,u.1,u.2,e3,xs,e4,hs,pairK e hk⟩,E.slice (h value) (ePtR h lo) (ePtR h hi)⟩
  | true => exact ⟨_,⟨q.1,q.2,e1,l.1,l.2,e2,u.1,u.2,e3,xs,e4,hs,pairK e hk⟩,E.mslice (h value) (ePtR h lo) (ePtR h hi)⟩
theorem notSlice {s:Expr} (h:¬ isSlice s = true):∀ o i,subscripted s false o i = operate [o,i] (getItem o i):=by
 cases s <;> first | exact fun _ _ => rfl | exact absurd rfl h
theorem eSubR (h:∀ e,E W c e (runE (r.e sc e))) {value slice:Expr} {pos:Pos}:E W c (.Subscript value slice pos) (runE (eSub r sc value slice)):=E.of fun vs ob k z0 => z0.go fun a ob' e hk =>
 have ⟨hs,e⟩:=ifF e
 bindE e fun p e1 e => bindE e fun q e2 e => bindE e fun i ei e => mapE e fun z e3 e => ⟨_,⟨p.1,p.2,e1,q.1,q.2,e2,i,AV.iI ei,z,e3,pairK e hk⟩,E.sub (h value) (h slice) (notSlice hs)⟩
theorem eCmp_ok (vs:VS) (ob:OB) {l y:Expr} {op:CmpOp} {a:Bool} {ob':OB} (e:eCmp r sc l op y vs ob = some (a,ob')):behindInMarks op y = false ∧ ∃ p q,frz (r.e sc l) vs ob = some p ∧ frz (r.e sc y) vs p.2 = some q ∧ copF op p.1 q.1 = some a ∧ ob' = q.2 :=
 have ⟨hm,e⟩:=ifF e
 ⟨Bool.eq_false_iff.mpr hm,bindE e fun p e1 e => bindE e fun q e2 e => mapE e fun z e3 e => ⟨p,q,e1,e2,e3.trans (congrArg some (congrArg Prod.fst e)),(congrArg Prod.snd e).symm⟩⟩
theorem eCmpsR (h:∀ e,E W c e (runE (r.e sc e))) {l:Expr} {ys:List Expr} {ops:List CmpOp} {pos:Pos}:E W c (.Compare l ops ys pos) (runE fun vs ob => (eCmps r sc l ops ys vs ob).map fun p => (.bool p.1,p.2)):=E.of fun vs ob k z0 => z0.go fun a ob' e hk => by
 rcases ops with _ | ⟨op,_ | ⟨o2,ops⟩⟩
 ·exact noS e
 ·rcases ys with _ | ⟨y,_ | ⟨y2,ys⟩⟩
  ·exact noS e
  ·refine mapE e fun w f e => ?_
   obtain ⟨hm,p,q,e1,e2,e3,e4⟩:=eCmp_ok vs ob f
   have hk:=pairK e hk
   exact ⟨_,⟨p.1,p.2,e1,q.1,q.2,e2,frz_tree e1,frz_tree e2,w.1,e3,e4 ▸ hk⟩,E.cmp (frzR (h l)) (frzR (h y)) hm⟩
  ·exact noS e
 ·exact noS e
theorem eCmpI (h:∀ e,E W c e (runE (r.e sc e))) {l y:Expr} {op:CmpOp} {pos:Pos}:Is W c (.Compare l [op] [y] pos) (runB (eCmp r sc l op y)):=Is.of fun vs ob k z0 => z0.go fun a ob' e hk => by
 obtain ⟨hm,p,q,e1,e2,e3,e4⟩:=eCmp_ok vs ob e
 exact ⟨_,⟨p.1,p.2,e1,q.1,q.2,e2,frz_tree e1,frz_tree e2,a,e3,e4 ▸ hk⟩,Is.cmp (frzR (h l)) (frzR (h y)) hm⟩
theorem noneC_ok {v:Const}:noneC v = true → v = .none:=by cases v <;> first | exact fun _ => rfl | exact fun h => nomatch h
theorem isNone_ok {y:Expr}:isNoneConst y = true → ∃ kk p,y = .Constant .none kk p:=by
 cases y with
 | Constant v kk p => exact fun h => noneC_ok h ▸ ⟨kk,p,rfl⟩
 | _ => exact fun h => nomatch h
theorem iCmpR (h:∀ e,E W c e (runE (r.e sc e))) {l y:Expr} {op:CmpOp} {pos:Pos}:Is W c (.Compare l [op] [y] pos) (runB (iCmp r sc l op y)):=by
 unfold iCmp
 by_cases hq:((op == .Is || op == .IsNot) && isNoneConst y) = true
 ·have ho:=(and2 hq).1
  obtain ⟨kk,p',rfl⟩:=isNone_ok (and2 hq).2
  refine Is.of fun vs ob k z0 => z0.go fun a ob' e hk => ?_
  refine bindE (ifP hq e) fun p e1 e => ?_
  revert e
  cases hp:p.1.k? with
  | some j =>
   intro e
   have hk:=boxK e hk
   refine ⟨_,⟨p.1,p.2,e1,⟨j,AV.kI hp⟩,?_⟩,Is.isNone (h l)⟩
   revert hk ho
   cases op <;> first | exact fun ho => absurd ho Bool.false_ne_true | exact fun _ hk => .inl ⟨rfl,hk⟩ | exact fun _ hk => .inr ⟨rfl,hk⟩
  | none =>
   intro e
   refine bindE e fun q e2 e => mapE e fun z e3 e => ?_
   have e5:frz (r.e sc l) vs ob = some q:=by unfold frz; rw [e1]; exact e2
   exact ⟨_,⟨q.1,q.2,e5,frz_tree e5,rfl,z,e3,pairK e hk⟩,Is.cmp (frzR (h l)) E.none rfl⟩
 ·exact (eCmpI h).mono fun vs ob k z0 => z0.go fun a ob' e hk => ⟨a,ob',ifQ hq e,hk⟩
theorem eAttrR (H:GlOk W G) (h:∀ e,E W c e (runE (r.e sc e))) {value:Expr} {name:Str} {pos:Pos}:E W c (.Attribute value name pos) (runE (eAttr G r sc value name)):=E.of fun vs ob k z0 => z0.go fun a ob' e hk => by
 obtain ⟨hb,e⟩:=ifF e
 have hb:=Bool.eq_false_iff.mpr hb
 refine bindE e fun p e1 e => ?_
 revert e
 cases hp:p.1.c?.bind rf? with
 | some C =>
  refine fun e => mapE e fun av e2 e => bindE hp fun v e3 e4 => ?_
  obtain ⟨v',hv,ht⟩:=H.cattr _ _ _ e2
  exact ⟨_,⟨p.1,p.2,e1,C,v',_,(AV.cI e3).trans (congrArg AV.cst (rfI e4)),hv,ht,pairK e hk⟩,E.cattr (h value) hb⟩
 | none =>
  refine fun e => bindE e fun i ei e => ?_
  obtain ⟨hp,e⟩:=ifT e
  refine bindE e fun x ex e => ?_
  obtain ⟨hx,e⟩:=ifS e
  obtain ⟨N,mN,Cl,h1,h2⟩:=H.plain _ _ hp
  exact ⟨_,⟨p.1,p.2,e1,i.1,i.2.1,i.2.2,_,N,mN,ei,ex,hx,Cl,h1,h2,pairK e hk⟩,E.attr (h value) hb⟩
end
section
variable {W:Wd} {c:Cx} {hid:List Addr} {G:Gl} {r:Ev} {sc:Sc}
theorem rangeOk_ok {a b:Int} (h:rangeOk a b = true):RangeOk a b :=
 have h4:=and2 h
 have h3:=and2 h4.1
 have h2:=and2 h3.1
 have h1:=and2 h2.1
 ⟨of_decide_eq_true h1.1,of_decide_eq_true h1.2,of_decide_eq_true h2.2,of_decide_eq_true h3.2,of_decide_eq_true h4.2⟩
theorem itGR {e:Expr} {f:FE} (h:E W c e (runE f)):It W c e (runL (itG f)):=It.of fun vs ob k z0 => z0.go fun a ob' e' hk =>
 bindE e' fun p e1 e => mapE e fun xs ex e => by
  have hk:=pairK e hk
  have q:∀ {a},p.1 = a → frz f vs ob = some (a,p.2):=fun q => q ▸ e1
  revert ex
  cases hp:p.1 with
  | lst l => exact fun ex => have ex:=ifS ex; ⟨_,⟨_,p.2,e1,l,.inl hp,ex.1,ex.2 ▸ hk⟩,It.seq (frzR h)⟩
  | tup l => exact fun ex => have ex:=ifS ex; ⟨_,⟨_,p.2,e1,l,.inr hp,ex.1,ex.2 ▸ hk⟩,It.seq (frzR h)⟩
  | str x => exact fun ex => have ex:=ifS ex; ⟨_,⟨_,p.2,e1,x,hp,ex.1.1,ex.1.2,ex.2 ▸ hk⟩,It.str (frzR h)⟩
  | _ => exact noS
theorem isTy_ok {T:String} {o:Option AV} (h:isTy T o = true):o = some (.cst (.type T)) :=
 have h:o.bind AV.ty? = some T:=eq_of_beq h
 bindE h fun _ e1 e2 => e1.trans (congrArg some (AV.tyI e2))
inductive ItInv (G:Gl) (sc:Sc):Expr → ItK → Prop where
 | other (e:Expr):ItInv G sc e .other
 | range1 {x p pos a} (h:isStar a = false) (t:gName G sc x = some (.cst (.type "range"))):ItInv G sc (.Call (.Name x p) [a] [] pos) (.range1 a)
 | rev {x p pos a} (h:isStar a = false) (t:gName G sc x = some (.cst (.type "reversed"))):ItInv G sc (.Call (.Name x p) [a] [] pos) (.rev a)
 | range2 {x p pos a b} (h:isStar a = false) (h':isStar b = false) (t:gName G sc x = some (.cst (.type "range"))):ItInv G sc (.Call (.Name x p) [a,b] [] pos) (.range2 a b)
theorem itN_inv {G:Gl} {sc:Sc} {x:Str} {p pos:Pos} (args:List Expr):ItInv G sc (.Call (.Name x p) args [] pos) (itN G sc x args):=by
 rcases args with _ | ⟨a,_ | ⟨b,_ | ⟨c,args⟩⟩⟩
 ·exact .other _
 ·unfold itN
  dsimp only
  by_cases h1:isStar a = true
  ·rw [if_pos h1]; exact .other _
  ·rw [if_neg h1]
   by_cases h2:isTy "range" (gName G sc x) = true
   ·rw [if_pos h2]; exact .range1 (Bool.eq_false_iff.mpr h1) (isTy_ok h2)
   ·rw [if_neg h2]
    by_cases h3:isTy "reversed" (gName G sc x) = true
    ·rw [if_pos h3]; exact .rev (Bool.eq_false_iff.mpr h1) (isTy_ok h3)
    ·rw [if_neg h3]; exact .other _
 ·unfold itN
  dsimp only
  by_cases h1:(isStar a || isStar b) = true
  ·rw [if_pos h1]; exact .other _
  ·rw [if_neg h1]
   have h4:=Bool.or_eq_false_iff.mp (Bool.eq_false_iff.mpr h1)
   by_cases h2:isTy "range" (gName G sc x) = true
   ·rw [if_pos h2]; exact .range2 h4.1 h4.2 (isTy_ok h2)
   ·rw [if_neg h2]; exact .other _
 ·exact .other _
theorem itK_inv {G:Gl} {sc:Sc} (e:Expr):ItInv G sc e (itK G sc e):=by
 cases e with
 | Call f args kws pos =>
  cases kws with
  | cons => exact .other _
  | nil => cases f <;> first | exact .other _ | exact itN_inv args
 | _ => exact .other _
theorem eItR (H:GlOk W G) (X:CtxOk W c sc) (h:∀ e,E W c e (runE (r.e sc e))) (e:Expr):It W c e (runL (eIt G r sc e)):=by
 have hk:=itK_inv (G:=G) (sc:=sc) e
 unfold eIt
 generalize itK G sc e = k at hk
 cases hk with
 | other => exact itGR (h e)
 | range1 hs ht =>
  exact (It.range1 (gName_ok H X ht) (h _) (starEach_cons hs) rfl).mono fun vs ob k z0 => z0.go fun l ob' e' hk =>
   bindE e' fun q e1 e => bindE e fun n en e => have e:=ifS e; ⟨q.1,q.2,e1,n,AV.iI en,rangeOk_ok e.1,pairK e.2 hk⟩
 | rev hs ht =>
  exact (It.rev (gName_ok H X ht) (frzR (h _)) hs).mono fun vs ob k z0 => z0.go fun l ob' e' hk =>
   bindE e' fun q e1 e => bindE e fun xs ex e => have e:=ifS e; ⟨q.1,q.2,e1,xs,AV.lI ex,e.1,pairK e.2 hk⟩
 | range2 hs hs' ht =>
  exact (It.range2 (gName_ok H X ht) (h _) (h _) (by rw [starEach_cons hs,starEach_cons hs']; rfl) (starEach_cons hs') rfl).mono fun vs ob k z0 => z0.go fun l ob' e' hk =>
   bindE e' fun q e1 e => bindE e fun u e2 e => bindE e fun m em e => bindE e fun n en e => have e:=ifS e; ⟨q.1,q.2,e1,u.1,u.2,e2,m,n,AV.iI em,AV.iI en,rangeOk_ok e.1,pairK e.2 hk⟩
theorem AV.dI {a:AV} {i:Unit}:a.d? = some i → a = .edict:=by cases a <;> first | exact noS | exact fun h => rfl
theorem AO.eI {a:AO} {i:Unit}:a.e? = some i → a = .list []:=by
 cases a with
 | list xs => exact fun h => have h:=(ifS h).1; congrArg AO.list (List.isEmpty_iff.mp h)
 | _ => exact noS
inductive It0Inv:Expr → It0K → Prop where
 | other (e:Expr):It0Inv e .other
 | name (e:Expr):It0Inv e .name
 | items {o:Expr} {apos pos:Pos} (h:isBareCall o = false) (l:(apos.endLine == pos.line) = true):It0Inv (.Call (.Attribute o "items" apos) [] [] pos) (.items o)
theorem it0K_inv (e:Expr):It0Inv e (it0K e):=by
 cases e with
 | Call f args kws pos =>
  cases f with
  | Attribute o name apos =>
   unfold it0K it0C
   dsimp only
   by_cases h:(args.isEmpty && kws.isEmpty && name == ("items" : Str) && !isBareCall o && (apos.endLine == pos.line)) = true
   ·rw [if_pos h]
    have h4:=and2 h
    have h3:=and2 h4.1
    have h2:=and2 h3.1
    have h1:=and2 h2.1
    rw [List.isEmpty_iff.mp h1.1,List.isEmpty_iff.mp h1.2,eq_of_beq h2.2]
    exact .items (not1 h3.2) h4.2
   ·rw [if_neg h]; exact .other _
  | _ => exact .other _
 | Name => exact .name _
 | _ => exact .other _
theorem eIt0R (h:∀ e,E W c e (runE (r.e sc e))) (e:Expr):It0 W c e (fun vs ob k => ∃ ob',eIt0 r sc e vs ob = some ob' ∧ k ob'):=by
 intro A hid vs ob k s as Q hA ⟨ob',e',hk⟩ R hQ
 have ek:=it0K_inv e
 unfold eIt0 at e'
 revert e' ek
 generalize it0K e = kk
 intro e' ek
 cases ek with
 | other => exact noS e'
 | name => exact bindE e' fun p e1 e2 => bindE e2 fun j ej e2 => bindE e2 fun _ e3 e2 => bindE e3 fun o eo e3 => It0.list (h e) A hid vs ob k s as Q hA ⟨p.1,p.2,e1,j,AV.kI ej,eo.trans (congrArg some (AO.eI e3)),Option.some.inj e2 ▸ hk⟩ R hQ
 | items hb hl => exact bindE e' fun p e1 e2 => bindE e2 fun _ ej e2 => It0.items (h _) hb hl A hid vs ob k s as Q hA ⟨p.1,p.2,e1,AV.dI ej,Option.some.inj e2 ▸ hk⟩ R hQ
noncomputable def tgT (tk:TgK):TT:=fun a vs ob k => ∃ vs',tgV tk a vs = some vs' ∧ k vs' ob
theorem tgV_two {i j:Nat} {x:AV} {vs vs':VS} (e:tgV (.two i j) x vs = some vs'):∃ a b,x = .tup [a,b] ∧ vs' = setV (setV vs i a) j b :=
 mapE e fun q e1 e2 => bindE e1 fun l e3 e4 => ⟨q.1,q.2,(AV.tI e3).trans (congrArg AV.tup (twoI e4)),e2.symm⟩
theorem eTgR (X:CtxOk W c sc) {target:Expr} {tk:TgK}:eTg sc target = some tk → Tg W c target (tgT tk) ∧ ((∃ x p,target = .Name x p) ∨ ∃ es k p,target = .Tuple es k p):=by
 cases target with
 | Name x p =>
  refine fun h => mapE h fun i hi e => ⟨fun A hid vs ob k s as Q x v hA ht R hv hQ => ?_,.inl ⟨_,_,rfl⟩⟩
  obtain ⟨vs',e',hk⟩:=ht
  subst e
  exact Tg.name (stIx_ok X hi) A hid vs ob k s as Q x v hA (show k (setV vs i x) ob from (show setV vs i x = vs' from Option.some.inj e') ▸ hk) R hv hQ
 | Tuple es kk p =>
  refine fun h => bindE h fun q e0 h => bindE h fun x ex h => bindE h fun y ey h => bindE h fun i hi h => mapE h fun j hj e => ⟨fun A hid vs ob k s as Q xx v hA ht R hv hQ => ?_,.inr ⟨_,_,_,rfl⟩⟩
  obtain ⟨vs',e',hk⟩:=ht
  subst e
  obtain ⟨px,ex⟩:=nmI ex
  obtain ⟨py,ey⟩:=nmI ey
  have es:=twoI e0
  rw [ex,ey] at es
  subst es
  obtain ⟨a,b,rfl,rfl⟩:=tgV_two e'
  exact Tg.pair (stIx_ok X hi) (stIx_ok X hj) rfl A hid vs ob k s as Q _ v hA ⟨a,b,rfl,hk⟩ R hv hQ
 | _ => exact noS
theorem forF_ok {tk:TgK} {body orelse:FS} (xs:List AV):∀ {vs:VS} {ob:OB} {k:AF → VS → OB → Prop},runS (forF tk body orelse xs) vs ob k → forT (tgT tk) (runS body) (runS orelse) xs vs ob k:=by
 induction xs with
 | nil => exact fun h => h
 | cons x xs ih =>
  intro vs ob k ⟨a,vs',ob',e,hk⟩
  refine bindE e fun vs₁ e1 f1 => bindE f1 fun p e2 f2 => ⟨vs₁,e1,p.1,p.2.1,p.2.2,e2,?_⟩
  revert f2
  cases p.1 with
  | next => exact fun f2 => ih ⟨a,vs',ob',f2,hk⟩
  | cont => exact fun f2 => ih ⟨a,vs',ob',f2,hk⟩
  | brk => exact fun f2 => boxT (k:=k) f2 hk
  | ret av => exact fun f2 => boxT (k:=k) f2 hk
theorem whileF_ok {test:FB} {body orelse:FS} (n:Nat):∀ {vs:VS} {ob:OB} {k:AF → VS → OB → Prop},runS (whileF test body orelse n) vs ob k → whileT (runB test) (runS body) (runS orelse) n vs ob k:=by
 induction n with
 | zero => exact fun ⟨a,vs',ob',e,hk⟩ => noS e
 | succ n ih =>
  intro vs ob k ⟨a,vs',ob',e,hk⟩
  refine bindE e fun b e1 f1 => ⟨b.1,b.2,e1,fun hb => ?_,fun hb => ⟨a,vs',ob',ifQ (Bool.eq_false_iff.mp hb) f1,hk⟩⟩
  refine bindE (ifP hb f1) fun p e2 f2 => ⟨p.1,p.2.1,p.2.2,e2,?_⟩
  revert f2
  cases p.1 with
  | next => exact fun f2 => ih ⟨a,vs',ob',f2,hk⟩
  | cont => exact fun f2 => ih ⟨a,vs',ob',f2,hk⟩
  | brk => exact fun f2 => boxT (k:=k) f2 hk
  | ret av => exact fun f2 => boxT (k:=k) f2 hk
theorem compF_ok {tk:TgK} {cond:FB} {elt:FE} (xs:List AV):∀ (acc:List AV) {vs:VS} {ob:OB} {k:List AV → OB → Prop},runL (compF tk cond elt xs acc) vs ob k → compT (tgT tk) (runB cond) (runE elt) xs acc vs ob k:=by
 induction xs with
 | nil => exact fun acc vs ob k ⟨a,ob',e,hk⟩ => have e:=ifS e; ⟨e.1,pairK e.2 hk⟩
 | cons x xs ih =>
  intro acc vs ob k ⟨a,ob',e,hk⟩
  have ⟨hl,e⟩:=ifT e
  refine bindE e fun vs₁ e1 f1 => bindE f1 fun b e2 f2 => ⟨hl,vs₁,e1,b.1,b.2,e2,fun hb => ?_,fun hb => ih _ ⟨a,ob',ifQ (Bool.eq_false_iff.mp hb) f2,hk⟩⟩
  refine bindE (ifP hb f2) fun y e3 f3 => ?_
  have f3:=ifT f3
  exact ⟨y.1,y.2,e3,f3.1,ih _ ⟨a,ob',f3.2,hk⟩⟩
theorem closL_get {cells:List (Str × Addr)} {x:Str} {cc:Addr}:∀ {names:List (Str × NameKind)},(closL cells names).lookup x = some cc → (x,NameKind.free) ∈ names ∧ cc = (cells.lookup x).getD 0:=by
 intro names h
 have hm:=mem_of_lookup h
 unfold closL at hm
 obtain ⟨p,hp,e⟩:=List.mem_map.mp hm
 cases e
 rw [List.mem_reverse,List.mem_filter] at hp
 obtain ⟨h1,h2⟩:=hp
 have:p.2 = .free:=by simpa using h2
 refine ⟨?_,rfl⟩
 rw [← this]
 exact h1
theorem closL_some {cells:List (Str × Addr)} {x:Str} {names:List (Str × NameKind)} (h:(x,NameKind.free) ∈ names):((closL cells names).lookup x).isSome = true:=by
 cases q:(closL cells names).lookup x with
 | some _ => rfl
 | none =>
  exfalso
  have hm:(x,(cells.lookup x).getD 0) ∈ closL cells names:=by
   unfold closL
   refine List.mem_map.mpr ⟨(x,.free),?_,rfl⟩
   rw [List.mem_reverse,List.mem_filter]
   exact ⟨h,rfl⟩
  rw [List.lookup_eq_none_iff] at q
  have:=q _ hm
  simp at this
theorem closureFor_eq {scope:Scope} {env:Env} (h:∀ p ∈ scope.names,p.2 = .free → ∃ cc,env.cells.lookup p.1 = some cc):closureFor scope env = pure (closL env.cells scope.names):=by
 unfold closureFor
 have loop:∀ (l:List (Str × NameKind)) (acc:List (Str × Addr)),(∀ p ∈ l,p.2 = .free → ∃ cc,env.cells.lookup p.1 = some cc) →
   (forIn l acc fun (x:Str × NameKind) (cs:List (Str × Addr)) => if (x.2 == .free) = true then do let a ← cellOf env x.1; pure (ForInStep.yield ((x.1,a) :: cs)) else pure (ForInStep.yield cs):Sem (List (Str × Addr))) = pure (((l.filter fun p => p.2 == .free).reverse.map fun p => (p.1,(env.cells.lookup p.1).getD 0)) ++ acc):=by
  intro l
  induction l with
  | nil => intro acc _; rfl
  | cons p l ih =>
   intro acc hl
   rw [List.forIn_cons]
   cases hp:p.2 == .free with
   | true =>
    obtain ⟨cc,ec⟩:=hl p (List.mem_cons_self ..) (by simpa using hp)
    have e1:cellOf env p.1 = pure cc:=by unfold cellOf; rw [ec]
    simp only [if_true,e1,pure_bind]
    rw [ih _ fun q hq => hl q (List.mem_cons_of_mem _ hq),List.filter_cons]
    simp [hp,ec]
   | false =>
    simp only [Bool.false_eq_true,if_false,pure_bind]
    rw [ih _ fun q hq => hl q (List.mem_cons_of_mem _ hq),List.filter_cons]
    simp [hp]
 have:=loop scope.names [] h
 rw [List.append_nil] at this
 show (forIn scope.names [] _ >>= fun r => pure r) = _
 rw [bind_pure]
 exact this
theorem cellsFrom_none:∀ {names:List (Str × NameKind)} {n:Nat} {acc:List (Str × Addr)},(∀ p ∈ names,p.2 ≠ .cell) → cellsFrom n names acc = acc
 | [],_,_,_ => rfl
 | (x,k) :: r,n,acc,h => by
  unfold cellsFrom
  have:(k == NameKind.cell) = false:=by
   have:=h _ (List.mem_cons_self ..)
   simpa using this
  rw [this]
  exact cellsFrom_none fun p hp => h p (List.mem_cons_of_mem _ hp)
theorem cellsFrom_some {x:Str}:∀ {names:List (Str × NameKind)} {n:Nat},(x,NameKind.cell) ∈ names → ∃ cc,(cellsFrom n names []).lookup x = some cc
 | [],_,h => by cases h
 | (y,k) :: r,n,h => by
  unfold cellsFrom
  cases hk:k == NameKind.cell with
  | true =>
   rw [if_pos rfl,cellsFrom_app]
   cases q:(cellsFrom (n + 1) r []).lookup x with
   | some cc => exact ⟨cc,by rw [List.lookup_append,q]; rfl⟩
   | none =>
    rcases List.mem_cons.mp h with e | hm
    ·cases e
     exact ⟨n,by rw [List.lookup_append,q]; simp⟩
    ·obtain ⟨cc,e⟩:=cellsFrom_some (n:=n + 1) hm
     (first | exact noO q e | exact noI q e | (rw [q] at e; cases e))
  | false =>
   rw [if_neg (by simp)]
   rcases List.mem_cons.mp h with e | hm
   ·cases e; cases hk
   ·exact cellsFrom_some hm
theorem distinct_ok:∀ {l:List (Str × NameKind)},distinct l = true → (l.map (·.1)).Nodup
 | [],_ => .nil
 | p :: r,h => by
  unfold distinct at h
  obtain ⟨h1,h2⟩:=Bool.and_eq_true_iff.mp h
  rw [List.map_cons,List.nodup_cons]
  refine ⟨fun hm => ?_,distinct_ok h2⟩
  obtain ⟨q,hq,e⟩:=List.mem_map.mp hm
  have h3:(r.any fun q => q.1 == p.1) = false:=by simpa using h1
  rw [List.any_eq_false] at h3
  have:=h3 q hq
  simp [e] at this
theorem lookup_of_distinct:∀ {l:List (Str × NameKind)},(l.map (·.1)).Nodup → ∀ {x:Str} {k:NameKind},(x,k) ∈ l → l.lookup x = some k
 | [],_,_,_,h => by cases h
 | (y,k') :: r,hn,x,k,h => by
  rw [List.map_cons,List.nodup_cons] at hn
  rw [List.lookup_cons]
  rcases List.mem_cons.mp h with e | hm
  ·cases e; simp
  ·have hne:(x == y) = false:=by
    rw [beq_eq_false_iff_ne]
    intro e
    subst e
    exact hn.1 (List.mem_map.mpr ⟨_,hm,rfl⟩)
   rw [hne]
   exact lookup_of_distinct hn.2 hm
theorem cloFree_ok {names inner:List (Str × NameKind)} (h:cloFree names inner = true) {x:Str} {k:NameKind} (hm:(x,k) ∈ inner):(k = .free → ∃ i kk,posOf x names = some (i,kk) ∧ (kk = .cell ∨ kk = .free)) ∧ k ≠ .cell:=by
 unfold cloFree at h
 have:=List.all_eq_true.mp h _ hm
 dsimp only at this
 split at this
 ·rename_i hf
  have hk:k = .free:=by simpa using hf
  refine ⟨fun _ => ?_,by rw [hk]; decide⟩
  split at this
  ·rename_i i e; exact ⟨_,_,e,.inl rfl⟩
  ·rename_i i e; exact ⟨_,_,e,.inr rfl⟩
  ·cases this
 ·rename_i hf
  refine ⟨fun e => ?_,by simpa using this⟩
  subst e
  exact absurd rfl hf
theorem freeVS_ok {names inner:List (Str × NameKind)} {vs:VS} {i:Nat} {x:Str} {k:NameKind} {av:AV} (h1:inner[i]? = some (x,k)) (h2:getV (freeVS names inner vs) i = some av) :
  k = .free ∧ ∃ j kk,names[j]? = some (x,kk) ∧ (kk = .cell ∨ kk = .free) ∧ getV vs j = some av:=by
 have h2:(Option.map _ inner[i]?).join = some av:=(congrArg Option.join List.getElem?_map.symm).trans h2
 rw [h1] at h2
 obtain ⟨hf,h2⟩:=ifT h2
 exact bindE h2 fun q hq e => have e:=ifT e; ⟨eq_of_beq hf,q.1,q.2,(posOf_ok hq).1,cfKI e.1,e.2⟩
end
section
variable {W:Wd} {c:Cx} {hid:List Addr} {G:Gl} {r:Ev} {sc:Sc}
theorem lookup_mem_posOf {x:Str} {l:List (Str × NameKind)} {i:Nat} {k:NameKind} (h:posOf x l = some (i,k)):(x,k) ∈ l:=List.mem_of_getElem? (posOf_ok h).1
theorem relab_names {scope:Scope} (X:CtxOk W c sc):(relabel scope c.env).names = relab sc.names scope.names:=by
 unfold relabel relab
 dsimp only
 refine List.map_congr_left fun p _ => ?_
 obtain ⟨n,k⟩:=p
 have e1:(c.env.scope.kind == .function) = true:=by rw [X.kind]; rfl
 have e2:c.env.kindOf n = sc.names.lookup n:=by rw [← X.names]; rfl
 simp only [e1,e2,Bool.and_true]
theorem relab_get {names inner:List (Str × NameKind)} {x:Str} {k:NameKind} (h:(x,k) ∈ relab names inner):∃ k₀,(x,k₀) ∈ inner ∧ (k = k₀ ∨ k₀ = .free):=by
 unfold relab at h
 obtain ⟨p,hp,e⟩:=List.mem_map.mp h
 split at e
 ·rename_i q
  cases e
  obtain ⟨q1,_⟩:=Bool.and_eq_true_iff.mp q
  have:p.2 = .free:=by simpa using q1
  exact ⟨.free,by rw [← this]; exact hp,.inr rfl⟩
 ·subst e
  exact ⟨_,hp,.inl rfl⟩
theorem compCtx {scope:Scope} {L:Addr} (X:CtxOk W c sc) (hk:(scope.kind == .function) = true) (hf:cloFree sc.names scope.names = true):CtxOk W (compCx c scope (closL c.env.cells scope.names) L) (compSc sc scope):=by
 have hnc:∀ p ∈ scope.names,p.2 ≠ .cell:=fun p hp => (cloFree_ok hf (x:=p.1) (k:=p.2) hp).2
 have ecells:(compCx c scope (closL c.env.cells scope.names) L).env.cells = closL c.env.cells scope.names:=cellsFrom_none hnc
 refine ⟨relab_names X,?_,(fun h => nomatch h),fun x i k hp hkk => ?_,(fun t h => nomatch h),(fun q h => nomatch h)⟩
 ·show (relabel scope c.env).kind = .function
  unfold relabel
  simpa using hk
 ·obtain ⟨k₀,hm,hk0⟩:=relab_get (lookup_mem_posOf hp)
  have hfree:k₀ = .free:=by
   rcases hk0 with rfl | h
   ·rcases hkk with rfl | h
    ·exact absurd rfl (hnc _ hm)
    ·exact h
   ·exact h
  subst hfree
  rw [ecells]
  exact Option.isSome_iff_exists.mp (closL_some hm)
noncomputable def fC (W:Wd) (fi:FI) (L:Addr):CP:=match fi.tb with
 | some t => cloC (cellsFrom (L + 1) fi.fd.scope.names fi.fd.closure) t.q W.pm
 | none => noC
theorem funCtx {a L:Addr} {fi:FI} {d:Nat} (F:FIok W a fi):CtxOk W (funCx fi.fd a L d (fC W fi L)) (fsc fi):=by
 have ec:(funCx fi.fd a L d (fC W fi L)).env.cells = cellsFrom (L + 1) fi.fd.scope.names []:=by
  show cellsFrom (L + 1) fi.fd.scope.names fi.fd.closure = _
  rw [F.fn.hclo]
 refine ⟨rfl,F.fn.hk,fun _ x i hp => ?_,fun x i k hp hk => ?_,fun t ht => ?_,fun q hq => ?_⟩
 ·obtain ⟨cc,e⟩:=cellsFrom_some (n:=L + 1) (lookup_mem_posOf hp)
  refine ⟨cc,by rw [ec]; exact e,?_⟩
  exact List.mem_cons_of_mem _ (List.mem_map.mpr ⟨_,mem_of_lookup e,rfl⟩)
 ·rcases hk with rfl | rfl
  ·rw [ec]; exact cellsFrom_some (lookup_mem_posOf hp)
  ·exact absurd rfl (F.nofree _ (lookup_mem_posOf hp))
 ·obtain ⟨h1,h2,h3⟩:=F.tb t ht
  refine ⟨h1,h2,?_,h3,rfl⟩
  show fC W fi L = _
  unfold fC
  have ht':fi.tb = some t:=ht
  rw [ht']
  rfl
 ·have hq':fi.tb.map (·.q) = some q:=hq
  obtain ⟨t,ht,rfl⟩:=mapS hq'
  refine ⟨_,?_,fun x i k _ _ => rfl⟩
  show fC W fi L = _
  unfold fC
  rw [ht]
  rfl
theorem cloCtx {f L:Addr} {d:Nat} {q:Str} {ci:Clo} {doc ctv c':Value} {cells₀:List (Str × Addr)} (X:CtxOk W c sc) (hC:c.isclo = cloC cells₀ q W.pm) (hc0:∀ x i k,posOf x sc.names = some (i,k) → (k = .cell ∨ k = .free) → cells₀.lookup x = c.env.cells.lookup x)
  (hs:scopeOk ci.scope = true) (hf:cloFree sc.names ci.scope.names = true) :
  CtxOk W (funCx (fnX ci.name q ci.params ci.body ci.scope (closL cells₀ ci.scope.names) .none .none doc W.pm none c' ctv) f L d c.isclo) (cloSc ci q):=by
 have hnc:∀ p ∈ ci.scope.names,p.2 ≠ .cell:=fun p hp => (cloFree_ok hf (x:=p.1) (k:=p.2) hp).2
 have ec:(funCx (fnX ci.name q ci.params ci.body ci.scope (closL cells₀ ci.scope.names) .none .none doc W.pm none c' ctv) f L d c.isclo).env.cells = closL cells₀ ci.scope.names:=cellsFrom_none hnc
 unfold scopeOk at hs
 simp only [Bool.and_eq_true,Bool.not_eq_true'] at hs
 have val:∀ x,(x,NameKind.free) ∈ ci.scope.names → ∃ cc,cells₀.lookup x = some cc:=fun x hm => by
  obtain ⟨i,kk,hp,hk⟩:=(cloFree_ok hf hm).1 rfl
  rw [hc0 x i kk hp hk]
  exact X.cells x i kk hp hk
 refine ⟨rfl,eq_of_beq hs.1.2,(fun h => nomatch h),fun x i k hp hk => ?_,(fun t h => nomatch h),fun q' h => ?_⟩
 ·rcases hk with rfl | rfl
  ·exact absurd rfl (hnc _ (lookup_mem_posOf hp))
  ·rw [ec]; exact Option.isSome_iff_exists.mp (closL_some (lookup_mem_posOf hp))
 ·cases h
  refine ⟨cells₀,hC,fun x i k hp hk => ?_⟩
  rcases hk with rfl | rfl
  ·exact absurd rfl (hnc _ (lookup_mem_posOf hp))
  ·rw [ec]
   have hm:(x,NameKind.free) ∈ ci.scope.names:=lookup_mem_posOf hp
   obtain ⟨cc,e⟩:=val x hm
   obtain ⟨cc',e'⟩:=Option.isSome_iff_exists.mp (closL_some (cells:=cells₀) hm)
   rw [e',(closL_get e').2,e]; rfl
theorem binds_of (X:CtxOk W c sc):∀ {ps:List Str} {is:List Nat},ps.mapM (stIx sc) = some is → Binds W c ps is
 | [],is,h => by
  rw [List.mapM_nil] at h
  cases h
  exact .nil
 | p :: ps,is,h => by
  rw [List.mapM_cons] at h
  obtain ⟨i,hi,h⟩:=bindS h
  obtain ⟨js,hj,h⟩:=bindS h
  cases h
  exact .cons (stIx_ok X hi) (binds_of X hj)
theorem notClo_ok {a:AV} (h:notClo a = true):∀ i,a ≠ .clo i:=fun i e => by subst e; cases h
theorem VVs.app {C} {G:GP} {as:AS} {xs us ys vs} (h:VVs C G as xs us) (h':VVs C G as ys vs):VVs C G as (xs ++ ys) (us ++ vs):=by
 induction h with
 | nil => exact h'
 | cons t _ ih => exact .cons t ih
theorem retF_ok {q:AF × VS × OB} {z:AV} {ob':OB} {k:AV → OB → Prop} (e:retF q = some (z,ob')) (hk:k z ob'):retS k q.1 q.2.1 q.2.2:=by
 obtain ⟨fl,vs',ob₁⟩:=q
 cases fl with
 | ret a => exact have e:=ifS e; ⟨notClo_ok e.1,pairK (k:=k) e.2 hk⟩
 | next => exact boxK (k:=k) e hk
 | brk => exact noS e
 | cont => exact noS e
noncomputable def Good (W:Wd) (n:Nat) (r:Ev):Prop:=∀ (c:Cx) (sc:Sc),CtxOk W c sc → 2 * n ≤ c.d → (∀ e,E W c e (runE (r.e sc e))) ∧ (∀ e,Is W c e (runB (r.i sc e))) ∧ ∀ st,S W c st (runS (r.s sc st))
theorem callS_ok {n:Nat} {a:Addr} {fi:FI} (Gd:Good W n r) (F:FIok W a fi) (low:sysModules < W.h₀.objs.size):FnK W (2 * n + 1) a fi.kwn (fun avs kvs ob k => ∃ z ob',callS r fi avs kvs ob = some (z,ob') ∧ k z ob'):=by
 intro A c hid vs ob k s as Q avs kvs us ks hA ⟨z,ob',e,hk⟩ R hv hkv hQ
 obtain ⟨⟨h1,h2,h3⟩,e⟩:=ifT e
 rw [List.all_eq_true] at h3
 have hl1:us.length = fi.npos:=hv.length.symm.trans h1
 have hl2:ks.length = fi.kwn.length:=hkv.length.symm.trans h2
 have vv:VVs noC (Gh W s.heap (c.av hid as)) as (avs ++ kvs) (us ++ ks):=(hv.app hkv).other fun x hx => notClo_ok (h3 x hx)
 have hB:∀ L,Binds W (funCx fi.fd a L (2 * n) (fC W fi L)) fi.ps fi.is:=fun L => binds_of (funCtx F) F.is
 have hS:∀ L,Ss W (funCx fi.fd a L (2 * n) (fC W fi L)) fi.body (runS (ss (r.s (fsc fi)) fi.body)):=fun L => ssR (fun st => (Gd _ _ (funCtx F) (Nat.le_refl _)).2.2 st) fi.body
 have hT:∀ x,x = (if fi.kwd = true then [AV.edict] else []) → runS (ss (r.s (fsc fi)) fi.body) (setVs (vs₀ fi.fd) fi.is (avs ++ kvs ++ x)) ob (retS k):=fun x hx =>
  bindE e fun q ea e => ⟨q.1,q.2.1,q.2.2,hx ▸ ea,retF_ok e hk⟩
 clear e hk h3 h1 h2 Gd
 cases hd:fi.kwd with
 | false =>
  obtain ⟨hp,hb⟩:=F.bind hd
  refine funShared F.fn hB hS (args:=⟨us,fi.kwn.zip ks⟩) (avs:=avs ++ kvs ++ []) hA ?_ (hT [] (by rw [hd]; rfl)) R hQ
  rw [List.append_nil]
  exact .of (hb s us ks R.base.sub hl1 hl2) (by rw [List.length_append,hl1,hl2,hp]) vv
 | true =>
  obtain ⟨hp,hkn,hb⟩:=F.bindD hd
  obtain rfl:ks = []:=List.length_eq_zero_iff.mp (by rw [hl2,hkn]; rfl)
  obtain rfl:kvs = []:=List.length_eq_zero_iff.mp hkv.length
  refine funShared F.fn hB hS (args:=⟨us,fi.kwn.zip []⟩) (avs:=avs ++ [] ++ [.edict]) hA ?_ (hT [.edict] (by rw [hd]; rfl)) R hQ
  intro M A' E' Q' hQ'
  rw [List.zip_nil_right,hb us hl1]
  rw [List.append_nil,List.append_nil] at vv
  refine wpAny_bind (wpAny_alloc (wpAny_pure (hQ' (us ++ [.ref s.heap.objs.size]) _ s.toks (by rw [List.length_append,hl1,hp]; rfl) (push_grow _ _) ?_)))
  rw [List.append_nil]
  have g:=gh_push (o:=emptyO) R.base rfl
  refine VVs.app (VVs.kp (c:=c) (hid:=hid) (l:=[]) (Kp.grow (push_grow _ _) []) (fun _ ha => nomatch ha) .refl (fun _ ha => .inl (mem_av_oh ha)) vv) (.cons (VV.of (.edict g ?_)) .nil)
  have hlt:sysModules < s.heap.objs.size:=by
   obtain ⟨o,_,_,e,_⟩:=W.g
   exact Nat.lt_trans (by decide) (Heap.lt_size (R.base.sub _ _ e))
  simpa using Nat.ne_of_gt hlt
theorem callI_ok {n:Nat} {a:Addr} {fi:FI} (Gd:Good W n r) (F:FIok W a fi):Fn W (2 * n + 1) (.ref a) (runF (callI r fi)):=by
 intro A c hid vs ob k s as Q avs us hA hT R hv hQ
 obtain ⟨z,ob',e,hk⟩:=runF_of hT
 obtain ⟨⟨h1,h2,h3,h4⟩,e⟩:=ifT e
 obtain ⟨hp,hb⟩:=F.bind h3
 have hp':fi.ps.length = fi.npos:=by rw [hp,h2]; rfl
 have hB:∀ L,Binds W (funCx fi.fd a L (2 * n) (fC W fi L)) fi.ps fi.is:=fun L => binds_of (funCtx F) F.is
 have hS:∀ L,Ss W (funCx fi.fd a L (2 * n) (fC W fi L)) fi.body (runS (ss (r.s (fsc fi)) fi.body)):=fun L => ssR (fun st => (Gd _ _ (funCtx F) (Nat.le_refl _)).2.2 st) fi.body
 refine Fn.iso F.fn hB (fun s us hs hl => ?_) hS A c hid vs ob k s as Q avs us hA ⟨by rw [h1,hp'],h4,?_⟩ R hv hQ
 ·have:=hb s us [] hs (by rw [hl,hp']) (by rw [h2]; rfl)
  rw [List.zip_nil_right,List.append_nil] at this
  exact this
 ·refine bindE e fun q ea e => ⟨q.1,q.2.1,q.2.2,ea,?_⟩
  clear ea
  obtain ⟨fl,vs',ob₁⟩:=q
  cases fl with
  | ret a => exact mapE e fun p ep e2 => ⟨p.1,p.2,ep,pairK (k:=k) e2 hk⟩
  | next => exact boxK (k:=k) e hk
  | brk => exact noS e
  | cont => exact noS e
end
section
variable {W:Wd} {c:Cx} {hid:List Addr} {G:Gl} {r:Ev} {sc:Sc}
theorem Fn.none {d:Nat} {fv:Value}:Fn W d fv (runF fun _ _ => Option.none):=fun A c hid vs ob k s as Q avs us hA hT R hv hQ => by
 obtain ⟨_,_,e,_⟩:=runF_of hT
 cases e
theorem bfn_ok {d:Nat} (id:String):Fn W d (.builtin id) (runF (bfn id)):=by
 unfold bfn
 split
 ·rename_i h; subst h; exact len_ok
 split
 ·rename_i h; subst h; exact abs_ok
 split
 ·rename_i h; subst h; exact hex_ok
 split
 ·rename_i h; subst h; exact divmod_ok
 split
 ·rename_i h; subst h; exact sum_ok
 split
 ·rename_i h; subst h; exact max_ok
 split
 ·rename_i h; subst h; exact sorted_ok
 exact Fn.none
theorem tfn_ok {d:Nat} (T:String):Fn W d (.type T) (runF (tfn T)):=by
 unfold tfn
 split
 ·rename_i h; subst h; exact tuple_ok
 split
 ·rename_i h; subst h; exact type_ok
 exact Fn.none
theorem mfn_ok {d:Nat} (H:GlOk W G) (id:String):Fn W d (.builtin id) (runF (mfn G id)):=by
 unfold mfn
 split
 ·rename_i h; subst h; exact append_ok
 split
 ·rename_i h; subst h; exact reverse_ok
 split
 ·rename_i h; subst h; exact count_ok
 split
 ·rename_i h; subst h; exact index_ok
 split
 ·rename_i h; subst h; exact upper_ok
 split
 ·rename_i h; subst h; exact lower_ok
 split
 ·rename_i h; subst h; exact split_ok
 split
 ·rename_i h; subst h; exact join_ok
 split
 ·rename_i h; subst h; exact bits_ok
 split
 ·rename_i h; subst h; exact dictGet_ok H.dict
 split
 ·rename_i h; subst h; exact search_ok H.pats
 exact Fn.none
theorem mTab_ok:∀ q ∈ mTab,MF q.1 q.2.1 q.2.2:=by
 refine List.forall_mem_cons.mpr ⟨⟨PySem.F.plainAttrs_list,PySem.F.slot_list_append,PySem.F.type_list_append⟩,?_⟩
 refine List.forall_mem_cons.mpr ⟨⟨PySem.F.plainAttrs_list,PySem.F.slot_list_reverse,PySem.F.type_list_reverse⟩,?_⟩
 refine List.forall_mem_cons.mpr ⟨⟨PySem.F.plainAttrs_list,PySem.F.slot_list_count,PySem.F.type_list_count⟩,?_⟩
 refine List.forall_mem_cons.mpr ⟨⟨PySem.F.plainAttrs_list,PySem.F.slot_list_index,PySem.F.type_list_index⟩,?_⟩
 refine List.forall_mem_cons.mpr ⟨⟨PySem.F.plainAttrs_str,PySem.F.slot_str_upper,PySem.F.type_str_upper⟩,?_⟩
 refine List.forall_mem_cons.mpr ⟨⟨PySem.F.plainAttrs_str,PySem.F.slot_str_lower,PySem.F.type_str_lower⟩,?_⟩
 refine List.forall_mem_cons.mpr ⟨⟨PySem.F.plainAttrs_str,PySem.F.slot_str_split,PySem.F.type_str_split⟩,?_⟩
 refine List.forall_mem_cons.mpr ⟨⟨PySem.F.plainAttrs_str,PySem.F.slot_str_join,PySem.F.type_str_join⟩,?_⟩
 refine List.forall_mem_cons.mpr ⟨⟨PySem.F.plainAttrs_int,PySem.F.slot_int_bit_length,PySem.F.type_int_bit_length⟩,?_⟩
 refine List.forall_mem_cons.mpr ⟨mf_dictGet,List.forall_mem_cons.mpr ⟨mf_search,fun _ h => nomatch h⟩⟩
theorem mId_ok {T:String} {name:Str} {id:String} (h:mId T name = some id):MF T name id :=
 mapE h fun q e1 e2 => by
  have hq:=and2 (List.find?_some (p:=fun q:String × Str × String => q.1 == T && q.2.1 == name) e1)
  have e3:q.1 = T:=eq_of_beq hq.1
  have e4:q.2.1 = name:=eq_of_beq hq.2
  exact e2 ▸ e3 ▸ e4 ▸ mTab_ok q (List.mem_of_find?_eq_some e1)
theorem tyOf_ok (H:GlOk W G) {ob:OB} {a:AV} {T:String}:tyOf G ob a = some T → HasTy W ob a T:=by
 cases a with
 | str => exact fun h => (Option.some.inj h).symm
 | int => exact fun h => (Option.some.inj h).symm
 | lst => exact fun h => (Option.some.inj h).symm
 | loc k => exact fun h => bindE h fun xs e h => ⟨(Option.some.inj h).symm,xs,e⟩
 | cst v =>
  refine fun h => bindE h fun p e h => ?_
  rw [rfI e]
  by_cases q:p = G.dict
  ·have h:=Option.some.inj (ifP q h)
   obtain ⟨o,h1,h2,h3⟩:=H.dictTy
   exact ⟨_,o,rfl,q ▸ h1,h ▸ h2,h3⟩
  ·have h:=ifS (ifQ q h)
   obtain ⟨code,P⟩:=H.pats _ (List.contains_iff_mem.mp h.1)
   obtain ⟨o,fs,T',oT,items,n,h1,h2,h3,_⟩:=P.ex
   exact ⟨_,o,rfl,h1,h.2 ▸ h2,h3⟩
 | _ => exact noS
theorem Fn.le {d d':Nat} {fv:Value} {T:TF} (H:Fn W d fv T) (h:d ≤ d'):Fn W d' fv T:=fun A c hid vs ob k s as Q avs us hA => H A c hid vs ob k s as Q avs us (hA.le h)
theorem callR_ok {n:Nat} (H:GlOk W G) (Gd:Good W n r) (a:Addr):Fn W (2 * n + 2) (.ref a) (runF (callR G r a)):=by
 unfold callR
 cases hI:G.init a with
 | some fI =>
  obtain ⟨N,mN,Cl,hi,ho⟩:=H.init _ _ hI
  intro A c hid vs ob k s as Q avs us hA hT R hv hQ
  obtain ⟨z,ob',e,hk⟩:=runF_of hT
  refine bindE e fun fi hfi e => ?_
  obtain ⟨hkn,e⟩:=ifT e
  have K:=callS_ok Gd (H.fn _ _ hfi) H.low
  rw [hkn] at K
  refine Fn.cls Cl hi ho K A c hid vs ob k s as Q avs us hA ?_ R hv hQ
  exact bindE e fun q e1 e => bindE e fun _ e2 e => ⟨q.1,q.2,e1,AV.nI e2,boxK e hk⟩
 | none =>
  intro A c hid vs ob k s as Q avs us hA hT R hv hQ
  obtain ⟨z,ob',e,hk⟩:=runF_of hT
  refine bindE e fun fi hfi e => ?_
  have F:=H.fn _ _ hfi
  by_cases ht:trees avs = true
  ·exact callI_ok Gd F A c hid vs ob k s as Q avs us (hA.le (by lia)) (runF_to (ifP ht e) hk) R hv hQ
  ·have K:=callS_ok Gd F H.low A c hid vs ob k s as Q avs [] us [] (hA.le (by lia)) ⟨z,ob',ifQ ht e,hk⟩ R hv .nil hQ
   rw [List.zip_nil_right] at K
   exact K
theorem callV_ok {n:Nat} (H:GlOk W G) (Gd:Good W n r) (v:Value):Fn W (2 * n + 2) v (runF (callV G r v)):=by
 cases v with
 | builtin id => exact bfn_ok _
 | type T => exact tfn_ok _
 | ref a => exact callR_ok H Gd a
 | _ => exact Fn.none
theorem cal_of (H:GlOk W G) {v:Value} {avs:List AV} {ob:OB} {z:AV × OB}:callV G r v avs ob = some z → Cal W v:=by
 cases v with
 | builtin id => exact fun _ => .builtin _
 | type T => exact fun _ => .type _
 | ref a =>
  show callR G r a avs ob = _ → _
  unfold callR
  cases hI:G.init a with
  | some fI =>
   obtain ⟨N,mN,Cl,_,_⟩:=H.init _ _ hI
   exact fun _ => .cls _ N mN Cl.cls
  | none =>
   refine fun h => bindE h fun fi hfi _ => ?_
   obtain ⟨o,ho,hd⟩:=(H.fn _ _ hfi).fn.ex
   exact .func _ o _ ho hd
 | _ => exact noS
theorem bare_ok {p:Arguments} (h:bareArgs p = true):p.posonlyargs = [] ∧ p.vararg = none ∧ p.kwonlyargs = [] ∧ p.kw_defaults = [] ∧ p.kwarg = none ∧ p.defaults = [] ∧ ∀ a ∈ p.args,a.annotation = none :=
 have h6:=and2 h
 have h5:=and2 h6.1
 have h4:=and2 h5.1
 have h3:=and2 h4.1
 have h2:=and2 h3.1
 have h1:=and2 h2.1
 ⟨List.isEmpty_iff.mp h1.1,Option.isNone_iff_eq_none.mp h1.2,List.isEmpty_iff.mp h2.2,List.isEmpty_iff.mp h3.2,Option.isNone_iff_eq_none.mp h4.2,List.isEmpty_iff.mp h5.2,fun a ha => Option.isNone_iff_eq_none.mp (List.all_eq_true.mp h6.2 a ha)⟩
theorem bareX {fd:FuncData} {n1 n2 n3:Option Expr} {p1 p2 p3:Pos} {kd:List (Option Expr)} {df:List Expr} {u v w:Value} (h:fd.params = ⟨[],[⟨"x",n1,p1⟩,⟨"L",n2,p2⟩,⟨"R",n3,p3⟩],none,[],kd,none,df⟩) (hd:fd.defaults = .none):bindArgs fd ⟨[u,v,w],[]⟩ = pure (argsX.zip [u,v,w]):=by
 cases fd
 dsimp only at h hd
 subst h hd
 rfl
theorem bareL {fd:FuncData} {n2 n3:Option Expr} {p2 p3:Pos} {kd:List (Option Expr)} {df:List Expr} {u v:Value} (h:fd.params = ⟨[],[⟨"L",n2,p2⟩,⟨"R",n3,p3⟩],none,[],kd,none,df⟩) (hd:fd.defaults = .none):bindArgs fd ⟨[u,v],[]⟩ = pure (argsL.zip [u,v]):=by
 cases fd
 dsimp only at h hd
 subst h hd
 rfl
theorem argsS {l:List Arg} {a:Str} {as:List Str} (h:l.map Arg.arg = a :: as):∃ n p t,l = ⟨a,n,p⟩ :: t ∧ t.map Arg.arg = as:=by
 cases l with
 | nil => cases h
 | cons x t =>
  obtain ⟨y,n,p⟩:=x
  exact ⟨n,p,t,congrArg (fun z => Arg.mk z n p :: t) (List.cons.inj h).1,(List.cons.inj h).2⟩
theorem args2 {l:List Arg} {a b:Str} (h:l.map Arg.arg = [a,b]):∃ n1 p1 n2 p2,l = [⟨a,n1,p1⟩,⟨b,n2,p2⟩]:=by
 obtain ⟨n1,p1,t,rfl,h1⟩:=argsS h
 obtain ⟨n2,p2,t,rfl,h2⟩:=argsS h1
 rw [List.map_eq_nil_iff.mp h2]
 exact ⟨_,_,_,_,rfl⟩
theorem args3 {l:List Arg} {a b c:Str} (h:l.map Arg.arg = [a,b,c]):∃ n1 p1 n2 p2 n3 p3,l = [⟨a,n1,p1⟩,⟨b,n2,p2⟩,⟨c,n3,p3⟩]:=by
 obtain ⟨n1,p1,t,rfl,h1⟩:=argsS h
 obtain ⟨n2,p2,n3,p3,rfl⟩:=args2 h1
 exact ⟨_,_,_,_,_,_,rfl⟩
theorem lenS {α:Type} {l:List α} {n:Nat} (h:l.length = n + 1):∃ a t,l = a :: t ∧ t.length = n:=by
 cases l with
 | nil => cases h
 | cons a t => exact ⟨a,t,rfl,Nat.succ.inj h⟩
theorem len1 {α:Type} {l:List α} (h:l.length = 1):∃ a,l = [a]:=by
 obtain ⟨a,t,rfl,h1⟩:=lenS h
 exact ⟨a,congrArg (List.cons a) (List.length_eq_zero_iff.mp h1)⟩
theorem len2 {α:Type} {l:List α} (h:l.length = 2):∃ a b,l = [a,b]:=by
 obtain ⟨a,t,rfl,h1⟩:=lenS h
 obtain ⟨b,rfl⟩:=len1 h1
 exact ⟨a,b,rfl⟩
theorem len3 {α:Type} {l:List α} (h:l.length = 3):∃ a b c,l = [a,b,c]:=by
 obtain ⟨a,t,rfl,h1⟩:=lenS h
 obtain ⟨b,c,rfl⟩:=len2 h1
 exact ⟨a,b,c,rfl⟩
theorem len4 {α:Type} {l:List α} (h:l.length = 4):∃ a b c d,l = [a,b,c,d]:=by
 obtain ⟨a,t,rfl,h1⟩:=lenS h
 obtain ⟨b,c,d,rfl⟩:=len3 h1
 exact ⟨a,b,c,d,rfl⟩
theorem len5 {α:Type} {l:List α} (h:l.length = 5):∃ a b c d e,l = [a,b,c,d,e]:=by
 obtain ⟨a,t,rfl,h1⟩:=lenS h
 obtain ⟨b,c,d,e,rfl⟩:=len4 h1
 exact ⟨a,b,c,d,e,rfl⟩
theorem len6 {α:Type} {l:List α} (h:l.length = 6):∃ a b c d e f,l = [a,b,c,d,e,f]:=by
 obtain ⟨a,t,rfl,h1⟩:=lenS h
 obtain ⟨b,c,d,e,f,rfl⟩:=len5 h1
 exact ⟨a,b,c,d,e,f,rfl⟩
theorem bareBind {fd:FuncData} {us:List Value} {L:List Str} (h1:fd.params.posonlyargs = []) (h2:fd.params.args.map Arg.arg = L) (h3:fd.params.vararg = none) (h4:fd.params.kwonlyargs = []) (h5:fd.params.kwarg = none) (h6:fd.defaults = .none) (hl:us.length = L.length) (hL:L = argsX ∨ L = argsL) :
  bindArgs fd ⟨us,[]⟩ = pure (L.zip us):=by
 have e:∀ ar,fd.params.args = ar → fd.params = ⟨[],ar,none,[],fd.params.kw_defaults,none,fd.params.defaults⟩:=fun ar h => by
  generalize fd.params = p at h1 h h3 h4 h5
  cases p
  dsimp only at h1 h h3 h4 h5
  rw [h1,h,h3,h4,h5]
 rcases hL with rfl | rfl
 ·obtain ⟨_,_,_,_,_,_,h⟩:=args3 h2
  obtain ⟨u,v,w,rfl⟩:=len3 hl
  exact bareX (e _ h) h6
 ·obtain ⟨_,_,_,_,h⟩:=args2 h2
  obtain ⟨u,v,rfl⟩:=len2 hl
  exact bareL (e _ h) h6
theorem noAnn (env:Env) (l:List Arg):(∀ a ∈ l,a.annotation = none) → annotationsOf l env = []:=by
 induction l with
 | nil => exact fun _ => rfl
 | cons a l ih =>
  intro h
  obtain ⟨nm,an,ps⟩:=a
  obtain rfl:an = none:=h _ (List.mem_cons_self ..)
  exact ih fun a ha => h a (List.mem_cons_of_mem _ ha)
theorem bareAnn {p:Arguments} (h:bareArgs p = true) (env:Env):annTrees p Option.none env = []:=by
 obtain ⟨h1,h2,h3,h4,h5,h6,h7⟩:=bare_ok h
 obtain ⟨po,ar,va,ko,kd,kwa,df⟩:=p
 dsimp only at h1 h2 h3 h4 h5 h6 h7
 subst h1 h2 h3 h4 h5 h6
 show annotationsOf (ar ++ [] ++ [] ++ [] ++ []) env ++ [] = []
 simp only [List.append_nil]
 exact noAnn env ar h7
theorem cloPs_ok {p:Arguments} {ps:List Str} (h:cloPs p = some ps):p.defaults = [] ∧ p.kw_defaults = [] ∧ (∀ env,annTrees p Option.none env = []) ∧
  ∀ (fd:FuncData) (us:List Value),fd.params = p → fd.defaults = .none → us.length = ps.length → bindArgs fd ⟨us,[]⟩ = pure (ps.zip us):=by
 obtain ⟨hb,h⟩:=ifT h
 obtain ⟨h1,h2,h3,h4,h5,h6,h7⟩:=bare_ok hb
 have e:p.args.map Arg.arg = ps ∧ (ps = argsX ∨ ps = argsL):=by
  by_cases q:p.args.map Arg.arg = argsX
  ·have h:=Option.some.inj (ifP q h)
   exact ⟨q.trans h,.inl h.symm⟩
  ·have h:=ifS (ifQ q h)
   exact ⟨h.1.trans h.2,.inr h.2.symm⟩
 exact ⟨h6,h4,bareAnn hb,fun fd us hp hd hl => by subst hp; exact bareBind h1 e.1 h2 h3 h5 hd hl e.2⟩
end
section
variable {W:Wd} {c:Cx} {hid:List Addr} {G:Gl} {r:Ev} {sc:Sc}
theorem cloOk_of {n:Nat} {q:Str} {ci:Clo} {ps:List Str} {is:List Nat} {cells₀:List (Str × Addr)} (Gd:Good W n r) (X:CtxOk W c sc) (hC:c.isclo = cloC cells₀ q W.pm)
  (hc0:∀ x i k,posOf x sc.names = some (i,k) → (k = .cell ∨ k = .free) → cells₀.lookup x = c.env.cells.lookup x) (hps:cloPs ci.params = some ps) (his:ps.mapM (stIx (cloSc ci q)) = some is) (hs:scopeOk ci.scope = true) (hf:cloFree sc.names ci.scope.names = true) :
  CloOk W c (2 * n) ci.name q ci.params ci.body ci.scope (closL cells₀ ci.scope.names) cells₀ ps is (runS (ss (r.s (cloSc ci q)) ci.body)) (freeVS sc.names ci.scope.names):=by
 obtain ⟨_,_,_,hb⟩:=cloPs_ok hps
 have hs':=hs
 unfold scopeOk at hs'
 simp only [Bool.and_eq_true,Bool.not_eq_true'] at hs'
 refine ⟨hC,rfl,hs'.1.1.1,hs'.1.1.2,eq_of_beq hs'.1.2,distinct_ok hs'.2,fun x cc e => ?_,fun x e => ?_,fun vs i x k av e1 e2 => ?_,fun doc ctv c' us hl => hb _ us rfl rfl hl,fun f L doc ctv c' => binds_of (cloCtx X hC hc0 hs hf) his,fun f L doc ctv c' => ssR (fun st => (Gd _ _ (cloCtx X hC hc0 hs hf) (Nat.le_refl _)).2.2 st) ci.body⟩
 ·obtain ⟨hm,rfl⟩:=closL_get e
  obtain ⟨i,kk,hp,hk⟩:=(cloFree_ok hf hm).1 rfl
  have e1:=hc0 x i kk hp hk
  obtain ⟨cc,e2⟩:=X.cells x i kk hp hk
  rw [e1,e2]; rfl
 ·obtain ⟨cc,e⟩:=Option.isSome_iff_exists.mp e
  exact (closL_get e).1
 ·obtain ⟨hk,j,kk,h1,h2,h3⟩:=freeVS_ok e1 e2
  refine ⟨?_,hk,j,kk,by rw [X.names]; exact h1,h2,h3⟩
  subst hk
  exact closL_some (List.mem_of_getElem? e1)
theorem eCallR {n:Nat} (H:GlOk W G) (Gd:Good W n r) (X:CtxOk W c sc) (hd:2 * n + 2 ≤ c.d) {x:Str} {p pos:Pos} {args:List Expr}:E W c (.Call (.Name x p) args [] pos) (runE (eCall G r sc x args)):=by
 have h:=(Gd c sc X (by lia)).1
 refine E.of fun vs ob k z0 => z0.go fun a ob' e' hk => ?_
 obtain ⟨hn,e'⟩:=ifT e'
 obtain ⟨hn1,hn2⟩:=and2 hn
 cases args with
 | nil => cases hn2
 | cons e rest =>
  have hn1':=and2 (show (!isStar e && noStar rest) = true from hn1)
  have he:=starEach_cons (es:=rest) (env:=c.env) (not1 hn1'.1)
  revert e'
  cases hg:(gName G sc x).bind AV.c? with
  | some v =>
   refine fun e' => bindE e' fun q e1 e2 => bindE hg fun av hg1 hg2 => ?_
   have hname:=gName_ok H X (hg1.trans (congrArg some (AV.cI hg2))) (pos:=p)
   have ha:Es W c (e :: rest) (runL (evs (fun e => if plainMode G v then r.e sc e else frzO (r.e sc e)) (e :: rest))):=evsR (fun e => by
    by_cases q:plainMode G v = true
    ·rw [if_pos q]; exact h e
    ·rw [if_neg q]; exact frzOR (h e)) hn1
   exact ⟨_,⟨q.1,q.2,e1,runF_to e2 hk⟩,E.call hname (cal_of H e2) ha (callV_ok H Gd v) hd he fun pos => by rw [backTo_any]; exact starEach_any hn1'.2⟩
  | none =>
   refine fun e' => bindE e' fun i hi e' => bindE e' fun q hq e' => bindE e' fun ci hci e' => bindE e' fun z e1 e2 => bindE e2 fun ps hps e2 => bindE e2 fun is his e2 => bindE hci fun av hci1 hci2 => ?_
   obtain ⟨cells₀,hC,hc0⟩:=X.clo q hq
   obtain ⟨hcond,e2⟩:=ifT e2
   have hl:=and2 hcond
   have hs:=and2 hl.1
   have ha:Es W c (e :: rest) (runL (evs (fun e => frzO (r.e sc e)) (e :: rest))):=evsR (fun e => frzOR (h e)) hn1
   exact ⟨_,⟨_,hci1.trans (congrArg some (AV.fI hci2)),ci,2 * n,q,_,cells₀,ps,is,_,_,rfl,cloOk_of Gd X hC hc0 hps his hs.1 hs.2,by lia,z.1,z.2,e1,of_decide_eq_true hl.2,bindE e2 fun w ea e2 => ⟨w.1,w.2.1,w.2.2,ea,retF_ok e2 hk⟩⟩,E.callClo (ldIx_ok X hi).1 ha he⟩
theorem eMethR {n:Nat} (H:GlOk W G) (Gd:Good W n r) (X:CtxOk W c sc) (hd:2 * n + 2 ≤ c.d) {o:Expr} {name:Str} {apos pos:Pos} {args:List Expr} {kws:List Keyword} :
  E W c (.Call (.Attribute o name apos) args kws pos) (runE (eMeth G r sc o name apos args kws pos)):=by
 have h:=(Gd c sc X (by lia)).1
 refine E.of fun vs ob k z0 => z0.go fun a ob' e' hk => ?_
 obtain ⟨hc,e'⟩:=ifT e'
 obtain ⟨hc,hline⟩:=and2 hc
 obtain ⟨hc,hl⟩:=and2 hc
 obtain ⟨hc,hkw⟩:=and2 hc
 obtain ⟨hb,hn⟩:=and2 hc
 have hb:=not1 hb
 have hl:=of_decide_eq_true hl
 by_cases hu:G.user name = true
 ·refine bindE (ifP hu e') fun p e1 f1 => bindE f1 fun i ei f1 => ?_
  obtain ⟨hns,f1⟩:=ifF f1
  refine bindE f1 fun f hf f1 => bindE f1 fun fi hfi f1 => ?_
  obtain ⟨hkn,f1⟩:=ifT f1
  refine bindE f1 fun q e2 f2 => bindE f2 fun z e3 e4 => ?_
  have K:=callS_ok Gd (H.fn _ _ hfi) H.low
  rw [hkn] at K
  exact ⟨_,⟨p.1,p.2,e1,i.1,i.2.1,i.2.2,f,2 * n + 1,_,ei,Bool.eq_false_iff.mpr hns,H.meth _ _ _ hf,K,by lia,q.1,q.2,e2,z.1,z.2,e3,a,ob',e4,hk⟩,E.umeth (h o) (evsR (fun e => frzOR (h e)) hn) (evkR (fun e => frzOR (h e)) kws) hb hn hkw hl hline⟩
 ·obtain ⟨hke,e9⟩:=ifT (ifQ hu e')
  clear e'
  obtain rfl:kws = []:=List.isEmpty_iff.mp hke
  refine bindE e9 fun p e1 f1 => bindE f1 fun T hT f1 => bindE f1 fun id hid f1 => bindE f1 fun q e2 f2 => ?_
  have ho:E W c o (runE (if (name == ("append" : Str) || name == ("reverse" : Str)) = true then r.e sc o else frz (r.e sc o))):=by
   by_cases q:(name == ("append" : Str) || name == ("reverse" : Str)) = true
   ·rw [if_pos q]; exact h o
   ·rw [if_neg q]; exact frzR (h o)
  exact ⟨_,⟨p.1,p.2,e1,T,id,tyOf_ok H hT,mId_ok hid,q.1,q.2,e2,runF_to f2 hk⟩,E.meth (Tf:=fun id => runF (mfn G id)) ho (evsR (fun e => frzR (h e)) hn) (fun id => mfn_ok H id) hb hn (by simpa using Nat.lt_of_lt_of_le hl (by lia)) hline⟩
theorem isSet_ok {e:Expr} (h:isSet e = false) (env:Env):∀ x,foldedSetIterable e env x = pure x:=by
 intro x
 cases e <;> first | rfl | cases h
theorem ifsR {sc':Sc} {c':Cx} {ifs:List Expr} {f:FB} (h:∀ e,Is W c' e (runB (r.i sc' e))) (hi:ifsF r sc' ifs = some f):Ifs W c' ifs (runB f):=by
 rcases ifs with _ | ⟨e,_ | ⟨e2,ifs⟩⟩
 ·obtain rfl:=Option.some.inj hi
  exact fun A hid vs ob k s as Q hA ⟨a,ob',e,hk⟩ R hQ => Ifs.nil A hid vs ob k s as Q hA (boxK e hk) R hQ
 ·obtain rfl:=Option.some.inj hi
  exact Ifs.one (h _)
 ·exact noS hi
theorem compOk_of {n:Nat} (H:GlOk W G) (Gd:Good W n r) (X:CtxOk W c sc) (hd:2 * n + 2 ≤ c.d) {elt target iter:Expr} {ifs:List Expr} {scope:Scope} {tg:TgK} {cond:FB}
  (hk:(scope.kind == .function) = true) (hdi:distinct scope.names = true) (hf:cloFree sc.names scope.names = true) (hset:isSet iter = false) (htg:eTg (compSc sc scope) target = some tg) (hifs:ifsF r (compSc sc scope) ifs = some cond) :
  CompOk W c elt target iter ifs scope (closL c.env.cells scope.names) (runL (eIt G r sc iter)) (tgT tg) (runB cond) (runE (frz (r.e (compSc sc scope) elt))) (freeVS sc.names scope.names):=by
 have hn:=distinct_ok hdi
 have X':=fun L => compCtx (L:=L) X hk hf
 have free:∀ p ∈ scope.names,p.2 = .free → ∃ cc,c.env.cells.lookup p.1 = some cc:=fun p hp e => by
  obtain ⟨i,kk,h1,h2⟩:=(cloFree_ok hf (x:=p.1) (k:=p.2) hp).1 e
  exact X.cells _ i kk h1 h2
 refine ⟨eItR H X (Gd c sc X (by lia)).1 iter,isSet_ok hset c.env,closureFor_eq free,eq_of_beq hk,fun x hx e => ?_,hn,fun x cc e => ?_,fun vs i x k av e1 e2 => ?_,fun L => ⟨?_,?_,?_⟩,?_⟩
 ·exact lookup_of_distinct hn (by rw [← e]; exact hx)
 ·obtain ⟨hm,rfl⟩:=closL_get e
  obtain ⟨cc,ec⟩:=free _ hm rfl
  rw [ec]; rfl
 ·obtain ⟨hk,j,kk,h1,h2,h3⟩:=freeVS_ok e1 e2
  subst hk
  exact ⟨rfl,closL_some (List.mem_of_getElem? e1),j,kk,by rw [X.names]; exact h1,h2,h3⟩
 ·exact (eTgR (X' L) htg).1
 ·exact ifsR (fun e => (Gd _ _ (X' L) (by show 2 * n ≤ c.d; lia)).2.1 e) hifs
 ·exact frzR ((Gd _ _ (X' L) (by show 2 * n ≤ c.d; lia)).1 elt)
 ·exact (eTgR (X' 0) htg).2
theorem eComp_inv {elt:Expr} {gens:List Comprehension} {scope:Scope} {vs:VS} {ob:OB} {z:AV × OB} (e:eComp G r sc elt gens scope vs ob = some z) :
  ∃ target iter ifs tg cond,gens = [⟨target,iter,ifs,0⟩] ∧ (((scope.kind == .function) = true ∧ distinct scope.names = true) ∧ cloFree sc.names scope.names = true ∧ isSet iter = false) ∧ eTg (compSc sc scope) target = some tg ∧ ifsF r (compSc sc scope) ifs = some cond ∧
   ∃ p q,eIt G r sc iter vs ob = some p ∧ compF tg cond (frz (r.e (compSc sc scope) elt)) p.1 [] (freeVS sc.names scope.names vs) p.2 = some q ∧ (AV.lst q.1,q.2) = z:=by
 rcases gens with _ | ⟨⟨target,iter,ifs,asy⟩,_ | ⟨g2,gens⟩⟩
 ·exact noS e
 ·obtain ⟨hc,e⟩:=ifT e
  have h5:=and2 hc
  have h4:=and2 h5.1
  have h3:=and2 h4.1
  have h2:=and2 h3.1
  obtain rfl:asy = 0:=eq_of_beq h5.2
  exact bindE e fun tg htg e => bindE e fun cond hifs e => bindE e fun p e1 e => mapE e fun q e2 e => ⟨target,iter,ifs,tg,cond,rfl,⟨and2 h2.1,h3.2,not1 h4.2⟩,htg,hifs,p,q,e1,e2,e⟩
 ·exact noS e
theorem eCompR {n:Nat} (H:GlOk W G) (Gd:Good W n r) (X:CtxOk W c sc) (hd:2 * n + 2 ≤ c.d) {elt:Expr} {gens:List Comprehension} {scope:Scope} {pos:Pos} :
  E W c (.ListComp elt gens scope pos) (runE (eComp G r sc elt gens scope)):=E.of fun vs ob k z0 => z0.go fun a ob' e' hk => by
 obtain ⟨target,iter,ifs,tg,cond,rfl,⟨⟨h1,h2⟩,h4,h5⟩,htg,hifs,p,q,e1,e2,e⟩:=eComp_inv e'
 exact ⟨_,⟨p.1,p.2,e1,compF_ok _ _ ⟨q.1,q.2,e2,pairK e hk⟩⟩,E.comp (compOk_of H Gd X hd h1 h2 h4 h5 htg hifs)⟩
theorem sCompR {n:Nat} (H:GlOk W G) (Gd:Good W n r) (X:CtxOk W c sc) (hd:2 * n + 2 ≤ c.d) {elt:Expr} {gens:List Comprehension} {scope:Scope} {pos py spos:Pos} {y:Str} {i:Nat} (hy:stIx sc y = some i) :
  S W c (.Assign [.Name y py] (.ListComp elt gens scope pos) spos) (runS fun vs ob => (eComp G r sc elt gens scope vs ob).bind fun p => some (.next,setV vs i p.1,p.2)):=Run.of fun vs ob k z0 => z0.go fun a vs' ob' e' hk => bindE e' fun w e' e0 => by
 have hk:=boxT e0 hk
 have sw:∃ b,swapsWith (.ListComp elt gens scope pos) (some (.Name y py)) spos.line c.env = pure b:=⟨_,rfl⟩
 obtain ⟨b,hb⟩:=sw
 cases b with
 | false => exact ⟨_,⟨w.1,w.2,e',hk⟩,S.assign (eCompR H Gd X hd) (stIx_ok X hy) hb⟩
 | true =>
  obtain ⟨target,iter,ifs,tg,cond,rfl,⟨⟨h1,h2⟩,h4,h5⟩,htg,hifs,p,q,e1,e2,e⟩:=eComp_inv e'
  subst e
  exact ⟨_,⟨p.1,p.2,e1,compF_ok _ _ ⟨q.1,q.2,e2,hk⟩⟩,S.compUsed (compOk_of H Gd X hd h1 h2 h4 h5 htg hifs) (stIx_ok X hy) hb⟩
end
section
variable {W:Wd} {c:Cx} {hid:List Addr} {G:Gl} {r:Ev} {sc:Sc}
theorem eConstR {v:Const} {kk:Nat} {pos:Pos}:E W c (.Constant v kk pos) (runE (eConst v)):=by
 cases v with
 | int i => exact E.int.mono fun vs ob k z0 => z0.go fun a ob' e hk => boxK (k:=k) e hk
 | str i => exact E.str.mono fun vs ob k z0 => z0.go fun a ob' e hk => boxK (k:=k) e hk
 | bool i => exact E.bool.mono fun vs ob k z0 => z0.go fun a ob' e hk => boxK (k:=k) e hk
 | none => exact E.none.mono fun vs ob k z0 => z0.go fun a ob' e hk => boxK (k:=k) e hk
 | _ => exact E.never fun _ _ => rfl
theorem eUnR (h:∀ e,E W c e (runE (r.e sc e))) {op:UnaryOp} {x:Expr} {pos:Pos}:E W c (.UnaryOp op x pos) (runE (eUn r sc op x)):=by
 cases op with
 | USub => exact (E.neg (h x)).mono fun vs ob k z0 => z0.go fun a ob' e hk => bindE e fun p e1 e => bindE e fun i ei e => ⟨p.1,p.2,e1,i,AV.iI ei,boxK (k:=k) e hk⟩
 | Invert => exact (E.inv (h x)).mono fun vs ob k z0 => z0.go fun a ob' e hk => bindE e fun p e1 e => bindE e fun i ei e => ⟨p.1,p.2,e1,i,AV.iI ei,boxK (k:=k) e hk⟩
 | _ => exact E.never fun _ _ => rfl
theorem eOrR (h:∀ e,E W c e (runE (r.e sc e))) {op:BoolOp} {xs:List Expr} {pos:Pos}:E W c (.BoolOp op xs pos) (runE (eOr r sc op xs)):=by
 cases op with
 | And => exact E.never fun _ _ => rfl
 | Or =>
  rcases xs with _ | ⟨x,_ | ⟨y,_ | ⟨z,xs⟩⟩⟩
  ·exact E.never fun _ _ => rfl
  ·exact E.never fun _ _ => rfl
  ·exact (E.or (h x) (h y)).mono fun vs ob k z0 => z0.go fun a ob' e hk => bindE e fun p e1 e => bindE e fun b eb e => ⟨p.1,p.2,e1,b,AV.bI eb,fun q => boxK (k:=k) (ifP q e) hk,fun q => ⟨a,ob',ifQ (Bool.eq_false_iff.mp q) e,hk⟩⟩
  ·exact E.never fun _ _ => rfl
theorem eSubsR (h:∀ e,E W c e (runE (r.e sc e))) {value slice:Expr} {pos:Pos}:E W c (.Subscript value slice pos) (runE (eSubs r sc value slice)):=by
 unfold eSubs
 cases hs:sliceOf slice with
 | none => exact eSubR h
 | some q => obtain ⟨p,rfl⟩:=sliceI hs; exact eSliceR h false
theorem eCallsR {n:Nat} (H:GlOk W G) (Gd:Good W n r) (X:CtxOk W c sc) (hd:2 * n + 2 ≤ c.d) {f:Expr} {args:List Expr} {kws:List Keyword} {pos:Pos}:E W c (.Call f args kws pos) (runE (eCalls G r sc f args kws pos)):=by
 cases f with
 | Name x p =>
  cases kws with
  | nil => exact gcER (eCallR H Gd X hd)
  | cons => exact E.never fun _ _ => rfl
 | Attribute o name apos => exact gcER (eMethR H Gd X hd)
 | _ => exact E.never fun _ _ => rfl
theorem eStepR {n:Nat} (H:GlOk W G) (Gd:Good W n r) (X:CtxOk W c sc) (hd:2 * n + 2 ≤ c.d) (e:Expr):E W c e (runE (eStep G r sc e)):=by
 have h:=(Gd c sc X (by lia)).1
 have hi:=(Gd c sc X (by lia)).2.1
 cases e with
 | Name x p => exact evNameR H X
 | Constant v kk p => exact eConstR
 | BinOp l op y p => exact eBinR h
 | UnaryOp op x p => exact eUnR h
 | BoolOp op xs p => exact eOrR h
 | IfExp t b o p =>
  exact (E.ifexp (hi t) (h b) (h o)).mono fun vs ob k z0 => z0.go fun a ob' e hk => bindE e fun p e1 f1 => ⟨p.1,p.2,e1,fun q => ⟨a,ob',ifP q f1,hk⟩,fun q => ⟨a,ob',ifQ (Bool.eq_false_iff.mp q) f1,hk⟩⟩
 | Compare l ops ys p => exact eCmpsR h
 | Call f args kws p => exact eCallsR H Gd X hd
 | Attribute v name p => exact eAttrR H h
 | Subscript v s p => exact eSubsR h
 | List es p =>
  cases es with
  | nil => exact eLstMR h
  | cons => exact eLstR h
 | Tuple es kk p => exact eTupR h
 | ListComp elt gens scope p => exact eCompR H Gd X hd
 | _ => exact E.never fun _ _ => rfl
theorem plainI (h:∀ e,E W c e (runE (r.e sc e))) {e:Expr} (hp:plainTest e = true):Is W c e (runB fun vs ob => (frz (r.e sc e) vs ob).bind fun p => (truF p.1).map fun b => (b,p.2)):=by
 refine (Is.val (frzR (h _)) ?_).mono fun vs ob k z0 => z0.go fun a ob' e hk => bindE e fun p e1 e => mapE e fun b e2 e => ⟨p.1,p.2,e1,frz_tree e1,b,e2,pairK e hk⟩
 cases e <;> first | exact fun _ => rfl | exact absurd hp Bool.false_ne_true
theorem iStepR {n:Nat} (H:GlOk W G) (Gd:Good W n r) (X:CtxOk W c sc) (hd:2 * n + 2 ≤ c.d) (e:Expr):Is W c e (runB (iStep G r sc e)):=by
 have h:=(Gd c sc X (by lia)).1
 have hi:=(Gd c sc X (by lia)).2.1
 cases e with
 | Compare l ops ys p =>
  rcases ops with _ | ⟨op,_ | ⟨o2,ops⟩⟩
  ·exact Is.never fun _ _ => rfl
  ·rcases ys with _ | ⟨y,_ | ⟨y2,ys⟩⟩
   ·exact Is.never fun _ _ => rfl
   ·exact iCmpR h
   ·exact Is.never fun _ _ => rfl
  ·exact Is.never fun _ _ => rfl
 | UnaryOp op x p =>
  by_cases hop:op = .Not
  ·subst hop
   exact (Is.not (hi x)).mono fun vs ob k z0 => z0.go fun a ob' e hk => mapE (show ((r.i sc x vs ob).map fun p => (!p.1,p.2)) = some (a,ob') from e) fun p e1 e => ⟨p.1,p.2,e1,pairK e hk⟩
  ·exact Is.never fun _ _ => if_neg hop
 | BoolOp op xs p =>
  cases op with
  | And => exact Is.never fun _ _ => rfl
  | Or =>
   rcases xs with _ | ⟨x,_ | ⟨y,_ | ⟨z,xs⟩⟩⟩
   ·exact Is.never fun _ _ => rfl
   ·exact Is.never fun _ _ => rfl
   ·exact (Is.or (hi x) (hi y)).mono fun vs ob k z0 => z0.go fun a ob' e hk => bindE e fun p e1 e => ⟨p.1,p.2,e1,fun q => boxK (k:=k) (ifP q e) hk,fun q => ⟨a,ob',ifQ (Bool.eq_false_iff.mp q) e,hk⟩⟩
   ·exact Is.never fun _ _ => rfl
 | Name | BinOp | Call | Attribute | Subscript | Constant => exact plainI h rfl
 | _ => exact Is.never fun _ _ => rfl
theorem eMutR {n:Nat} (H:GlOk W G) (Gd:Good W n r) (X:CtxOk W c sc) (hd:2 * n + 2 ≤ c.d) (e:Expr):E W c e (runE (eMut G r sc e)):=by
 have h:=(Gd c sc X (by lia)).1
 cases e with
 | ListComp => exact eCompR H Gd X hd
 | SetComp => exact E.never fun _ _ => rfl
 | DictComp => exact E.never fun _ _ => rfl
 | List => exact eLstMR h
 | BinOp => exact eBinMR h
 | Subscript v s p =>
  unfold eMut
  dsimp only
  cases hs:sliceOf s with
  | none => exact h _
  | some q => obtain ⟨p,rfl⟩:=sliceI hs; exact eSliceR h true
 | _ => exact h _
theorem swaps_false {e:Expr} {t:Option Expr} {l:Nat} {env:Env} (h:isComp e = false):swapsWith e t l env = pure false:=by
 cases e <;> first | rfl | exact absurd h.symm Bool.false_ne_true
theorem swaps_attr {e o:Expr} {nm:Str} {p:Pos} {l:Nat} {env:Env}:swapsWith e (some (.Attribute o nm p)) l env = pure false:=by cases e <;> rfl
theorem swaps_sub {e o i:Expr} {p:Pos} {l:Nat} {env:Env}:swapsWith e (some (.Subscript o i p)) l env = pure false:=by cases e <;> rfl
theorem swaps_tup {e:Expr} {es:List Expr} {kk:Nat} {p:Pos} {l:Nat} {env:Env}:swapsWith e (some (.Tuple es kk p)) l env = pure false:=by cases e <;> rfl
theorem swapped_none {es:List Expr} {kk:Nat} {p:Pos} {e:Expr} {env:Env} (h:notTup e = true):swappedStores [.Tuple es kk p] e env = pure none:=by
 cases e <;> first | rfl | exact absurd h Bool.false_ne_true
section
variable {n:Nat} (H:GlOk W G) (Gd:Good W n r) (X:CtxOk W c sc) (hd:2 * n + 2 ≤ c.d)
include H Gd X hd
theorem sNameR {x:Str} {px:Pos} {e:Expr} {pos:Pos}:S W c (.Assign [.Name x px] e pos) (runS (sNameA r sc G x e)) :=
 Run.of fun vs ob k z0 => z0.go fun a vs' ob' e' hk => bindE e' fun i hx e' => by
  cases hc:isComp e with
  | false => exact bindE e' fun p e1 e2 => ⟨_,⟨p.1,p.2,e1,boxT e2 hk⟩,S.assign (eMutR H Gd X hd e) (stIx_ok X hx) (swaps_false hc)⟩
  | true =>
   cases e with
   | ListComp => exact ⟨_,⟨a,vs',ob',e',hk⟩,sCompR H Gd X hd hx⟩
   | SetComp => exact noS e'
   | DictComp => exact noS e'
   | _ => exact absurd hc Bool.false_ne_true
theorem sAttrR {o e:Expr} {name:Str} {ap pos:Pos}:S W c (.Assign [.Attribute o name ap] e pos) (runS (sAttrA r sc G o name e)) :=
 Run.of fun vs ob k z0 => z0.go fun a vs' ob' e' hk =>
  have h:=(Gd c sc X (by lia)).1
  bindE (ifF e').2 fun y e1 f1 => bindE f1 fun q e2 f2 => bindE f2 fun j ej f3 => bindE f3 fun i ei f4 => bindE ei fun oo eo ei => by
   obtain ⟨hc,f4⟩:=ifS f4
   obtain ⟨N,mN,Cl,p1,p2⟩:=H.plain _ _ hc.2.2
   exact ⟨_,⟨y.1,y.2,e1,q.1,q.2,e2,hc.1,j,i.1,i.2.1,i.2.2,N,mN,AV.kI ej,eo.trans (congrArg some (AO.nI ei)),hc.2.1,Cl,p1,p2,tripK f4 hk⟩,S.setAttr (h e) (h o) swaps_attr⟩
theorem sSubR {o i e:Expr} {tp pos:Pos}:S W c (.Assign [.Subscript o i tp] e pos) (runS (sSubA r sc o i e)) :=
 Run.of fun vs ob k z0 => z0.go fun a vs' ob' e' hk =>
  have h:=(Gd c sc X (by lia)).1
  bindE (ifF e').2 fun y e1 f1 => bindE f1 fun q e2 f2 => bindE f2 fun b e3 f3 => bindE f3 fun j ej f3 => bindE f3 fun m em f3 => bindE f3 fun xs ei f3 => bindE ei fun oo eo ei => mapE f3 fun xs' e4 e5 =>
   ⟨_,⟨y.1,y.2,e1,q.1,q.2,e2,b.1,b.2,e3,frz_tree e1,j,m,xs,xs',AV.kI ej,AV.iI em,eo.trans (congrArg some (AO.lI ei)),e4,tripK e5 hk⟩,S.setSub (frzR (h e)) (h o) (h i) swaps_sub⟩
theorem sTupR {es:List Expr} {e:Expr} {kk:Nat} {tp pos:Pos}:S W c (.Assign [.Tuple es kk tp] e pos) (runS (sTupA r sc es e)) :=
 Run.of fun vs ob k z0 => z0.go fun a vs' ob' e' hk =>
  have h:=(Gd c sc X (by lia)).1
  bindE e' fun q e0 e' => bindE e' fun x ex e' => bindE e' fun y ey e' => bindE e' fun i hx e' => bindE e' fun j hy e9 => by
   obtain ⟨px,ex⟩:=nmI ex
   obtain ⟨py,ey⟩:=nmI ey
   have es:=twoI e0
   rw [ex,ey] at es
   subst es
   obtain ⟨hc,e8⟩:=ifT e9
   refine bindE e8 fun p e1 f1 => ?_
   clear e0 ex ey e8 e9
   revert f1
   cases ep:p.1 with
   | tup l =>
    refine fun f1 => bindE f1 fun z ez f1 => ⟨_,⟨p.1,p.2,e1,z.1,z.2,ep.trans (congrArg AV.tup (twoI ez)),boxT f1 hk⟩,S.tup (h e) (stIx_ok X hx) (stIx_ok X hy) hc.1 rfl (swaps_tup (es:=[.Name x px,.Name y py]) (kk:=kk) (p:=tp) (l:=pos.line) (env:=c.env)) (swapped_cases fun vs' k' p' e0 => ?_)⟩
    have:=hc.2
    rw [e0] at this
    exact not1 this
   | lst l =>
    refine fun f1 => bindE f1 fun z ez f1 => ?_
    have f1:=ifS f1
    refine ⟨_,⟨p.1,p.2,e1,z.1,z.2,ep.trans (congrArg AV.lst (twoI ez)),tripK f1.2 hk⟩,S.tupL (h e) (stIx_ok X hx) (stIx_ok X hy) (swaps_tup (es:=[.Name x px,.Name y py]) (kk:=kk) (p:=tp) (l:=pos.line) (env:=c.env)) (swapped_none f1.1)⟩
   | _ => exact noS
theorem sThreeR {t1 t2 t3 e:Expr} {pos:Pos}:S W c (.Assign [t1,t2,t3] e pos) (runS (sThree r sc t1 t2 t3 e)) :=
 Run.of fun vs ob k z0 => z0.go fun a vs' ob' e' hk =>
  have h:=(Gd c sc X (by lia)).1
  bindE e' fun x ex e' => bindE e' fun y ey e' => bindE e' fun z ez e' => bindE e' fun i hx e' => bindE e' fun j hy e' => bindE e' fun l hz e' => bindE e' fun p e1 f1 => by
   obtain ⟨px,rfl⟩:=nmI ex
   obtain ⟨py,rfl⟩:=nmI ey
   obtain ⟨pz,rfl⟩:=nmI ez
   have f1:=ifS f1
   exact ⟨_,⟨p.1,p.2,e1,f1.1,tripK f1.2 hk⟩,S.three (h e) (stIx_ok X hx) (stIx_ok X hy) (stIx_ok X hz) rfl rfl⟩
theorem sAssignR {targets:List Expr} {e:Expr} {pos:Pos}:S W c (.Assign targets e pos) (runS (sAssign r sc G targets e)):=by
 rcases targets with _ | ⟨t,_ | ⟨t2,_ | ⟨t3,_ | ⟨t4,ts⟩⟩⟩⟩
 ·exact Run.never fun _ _ => rfl
 ·cases t with
  | Name => exact sNameR H Gd X hd
  | Attribute => exact sAttrR H Gd X hd
  | Subscript => exact sSubR H Gd X hd
  | Tuple => exact sTupR H Gd X hd
  | _ => exact Run.never fun _ _ => rfl
 ·exact Run.never fun _ _ => rfl
 ·exact sThreeR H Gd X hd
 ·exact Run.never fun _ _ => rfl
end
theorem notSliceA {i:Expr} (h:¬ isSlice i = true):∀ ov iv new,augStore i ov iv new = (do holding [new,ov,iv] (setItem ov iv new); release [new,ov,iv] []; pure .next):=by
 cases i <;> first | exact fun _ _ _ => rfl | exact absurd rfl h
theorem sAugR (h:∀ e,E W c e (runE (r.e sc e))) (X:CtxOk W c sc) {target e:Expr} {op:Operator} {pos:Pos}:S W c (.AugAssign target op e pos) (runS (sAug r sc target op e)):=by
 cases target with
 | Name x px =>
  exact Run.of fun vs ob k z0 => z0.go fun a vs' ob' e' hk => bindE e' fun i hi e' => bindE e' fun j hj e9 => by
   obtain ⟨hij,e8⟩:=ifT e9
   subst hij
   refine bindE e8 fun av e1 f1 => ?_
   have f1:=ifT f1
   exact bindE f1.2 fun p e2 f2 => mapE f2 fun z e3 e4 => ⟨_,⟨av,e1,f1.1,p.1,p.2,e2,frz_tree e2,z,e3,tripK e4 hk⟩,S.aug (ldIx_ok X hi (pos:=px)).2 (frzR (h e)) (stIx_ok X hj)⟩
 | Subscript o i tp =>
  exact Run.of fun vs ob k z0 => z0.go fun a vs' ob' e' hk =>
   have hns:=ifF e'
   bindE hns.2 fun q e1 f1 => bindE f1 fun b e2 f2 => bindE f2 fun j ej f2 => bindE f2 fun m em f2 => bindE f2 fun xs e3 f3 => bindE f3 fun x e4 f4 =>
    have f4:=ifT f4
    bindE f4.2 fun y e5 f5 => bindE f5 fun z e6 f6 => bindE f6 fun ys ei f6 => bindE ei fun oo eo ei => mapE f6 fun ys' e7 e8 =>
     ⟨_,⟨q.1,q.2,e1,b.1,b.2,e2,j,m,xs,x,AV.kI ej,AV.iI em,(AV.kI ej).symm ▸ e3,e4,f4.1,y.1,y.2,e5,frz_tree e5,ys,ys',z,⟨z,e6,rfl⟩,eo.trans (congrArg some (AO.lI ei)),e7,tripK e8 hk⟩,S.augSub (h o) (h i) (frzR (h e)) (notSliceA hns.1)⟩
 | _ => exact Run.never fun _ _ => rfl
theorem stIx_glob {x:Str} {i:Nat} (X:CtxOk W c sc) (hi:stIx sc x = some i):(c.env.kindOf x == some .globalExplicit) = false:=by
 refine bindE hi fun p hp e => ?_
 obtain ⟨hk,_⟩:=ifS e
 show (c.env.scope.names.lookup x == some .globalExplicit) = false
 rw [X.names,(posOf_ok hp).2]
 rcases stKI hk with q | ⟨q,_⟩ <;> rw [q] <;> rfl
theorem sDefR (H:GlOk W G) (X:CtxOk W c sc) {name:Str} {params:Arguments} {body:List Stmt} {scope:Scope} {pos:Pos}:S W c (.FunctionDef name params body [] none [] scope none name pos) (runS (sDef sc name params body scope pos)) :=
 Run.of fun vs ob k z0 => z0.go fun a vs' ob' e' hk => bindE e' fun t ht e' => bindE e' fun i hi e' => bindE e' fun ps hps e' => by
  obtain ⟨hc,e'⟩:=ifS e'
  have h4:=and2 hc
  have h3:=and2 h4.1
  have h2:=and2 h3.1
  obtain ⟨m1,m2,m3,m4,m5⟩:=X.tb t ht
  obtain ⟨c1,c2,c3,_⟩:=cloPs_ok hps
  refine ⟨_,tripK e' hk,S.def m1 H.nd m2 (of_decide_eq_true h2.1) (of_decide_eq_true h2.2) ?_ c1 c2 (c3 _) (closureFor_eq fun p hp e => ?_) m4 (stIx_ok X hi) m3⟩
  ·unfold qualnameIn
   rw [stIx_glob X hi]
   simp only [Bool.false_eq_true,if_false]
   rw [m5]
   exact eq_of_beq h3.2
  ·obtain ⟨j,kk,q1,q2⟩:=(cloFree_ok h4.2 (x:=p.1) (k:=p.2) hp).1 e
   exact X.cells _ j kk q1 q2
theorem sForR (H:GlOk W G) (X:CtxOk W c sc) (h:∀ e,E W c e (runE (r.e sc e))) (hs:∀ st,S W c st (runS (r.s sc st))) {target iter:Expr} {body orelse:List Stmt} {pos:Pos}:S W c (.For target iter body orelse pos) (runS (sFor G r sc target iter body orelse)) :=
 Run.of fun vs ob k z0 => z0.go fun a vs' ob' e hk => by
  obtain ⟨hset,e⟩:=ifF e
  have hset:=Bool.eq_false_iff.mpr hset
  refine bindE e fun tg htg e => ?_
  obtain ⟨T1,T2⟩:=eTgR X htg
  revert e
  cases e1:eIt0 r sc iter vs ob with
  | some ob₁ => exact fun e => ⟨_,⟨ob₁,e1,a,vs',ob',e,hk⟩,S.for0 (eIt0R h iter) (ssR hs orelse) (isSet_ok hset c.env)⟩
  | none => exact fun e => bindE e fun p e1 f1 => ⟨_,⟨p.1,p.2,e1,forF_ok _ ⟨a,vs',ob',f1,hk⟩⟩,S.for (eItR H X h iter) T1 (ssR hs body) (ssR hs orelse) T2 (isSet_ok hset c.env)⟩
theorem sRetR (h:∀ e,E W c e (runE (r.e sc e))) (e:Expr):E W c e (runE (sRetF r sc e)):=by
 cases e with
 | Subscript v s p =>
  unfold sRetF
  dsimp only
  cases hs:sliceOf s with
  | none => exact h _
  | some q => obtain ⟨p,rfl⟩:=sliceI hs; exact eSliceR h true
 | _ => exact h _
theorem sStepR {n:Nat} (H:GlOk W G) (Gd:Good W n r) (X:CtxOk W c sc) (hd:2 * n + 2 ≤ c.d) (st:Stmt):S W c st (runS (sStep G r sc st)):=by
 have h:=(Gd c sc X (by lia)).1
 have hi:=(Gd c sc X (by lia)).2.1
 have hs:=(Gd c sc X (by lia)).2.2
 cases st with
 | Assign => exact sAssignR H Gd X hd
 | AugAssign => exact sAugR h X
 | Return x p =>
  cases x with
  | none => exact S.ret0.mono fun vs ob k z0 => z0.go fun a vs' ob' e hk => boxT (k:=k) e hk
  | some e => exact (S.ret (sRetR h e)).mono fun vs ob k z0 => z0.go fun a vs' ob' e hk => mapE e fun p e1 e2 => ⟨p.1,p.2,e1,tripK (k:=k) e2 hk⟩
 | If t body orelse p =>
  exact (S.if (hi t) (ssR hs body) (ssR hs orelse)).mono fun vs ob k z0 => z0.go fun a vs' ob' e hk => bindE e fun p e1 f1 => ⟨p.1,p.2,e1,fun q => ⟨a,vs',ob',by rw [q] at f1; exact f1,hk⟩,fun q => ⟨a,vs',ob',by rw [q] at f1; exact f1,hk⟩⟩
 | For => exact sForR H X h hs
 | While => exact (S.while 8 (hi _) (ssR hs _) (ssR hs _)).mono fun vs ob k ht => whileF_ok 8 ht
 | Expr e p => exact Run.of fun vs ob k z0 => z0.go fun a vs' ob' e' hk => have e':=ifF e'; mapE e'.2 fun p e1 e2 => ⟨_,⟨p.1,p.2,e1,tripK (k:=k) e2 hk⟩,S.expr (h e) (swaps_false (Bool.eq_false_iff.mpr e'.1))⟩
 | Break => exact S.brk.mono fun vs ob k z0 => z0.go fun a vs' ob' e hk => boxT (k:=k) e hk
 | Pass => exact S.pass.mono fun vs ob k z0 => z0.go fun a vs' ob' e hk => boxT (k:=k) e hk
 | FunctionDef name params body decs rets tps scope tscope bind pos =>
  refine Run.of fun vs ob k z0 => z0.go fun a vs' ob' e' hk => ?_
  obtain ⟨hc,e9⟩:=ifT e'
  clear e'
  have h4:=and2 hc
  have h3:=and2 h4.1
  have h2:=and2 h3.1
  have h1:=and2 h2.1
  obtain rfl:=List.isEmpty_iff.mp h1.1
  obtain rfl:=Option.isNone_iff_eq_none.mp h1.2
  obtain rfl:=List.isEmpty_iff.mp h2.2
  obtain rfl:=Option.isNone_iff_eq_none.mp h3.2
  obtain rfl:=eq_of_beq h4.2
  exact ⟨_,⟨a,vs',ob',e9,hk⟩,sDefR H X⟩
 | _ => exact Run.never fun _ _ => rfl
theorem good {G:Gl} (H:GlOk W G):∀ n,Good W n (ev G n)
 | 0 => fun c sc X hd => ⟨fun e => E.never fun _ _ => rfl,fun e => Is.never fun _ _ => rfl,fun st => Run.never fun _ _ => rfl⟩
 | n + 1 => fun c sc X hd =>
  have ih:=good H n
  have hd':2 * n + 2 ≤ c.d:=hd
  ⟨fun e => eStepR H ih X hd' e,fun e => iStepR H ih X hd' e,fun st => sStepR H ih X hd' st⟩
end
section
open Builtin Builtin.ObjectAttr
variable {W:Wd} {c:Cx} {hid:List Addr}
theorem noFrag {h:Heap}:Frag.In [] h:=fun a o e => nomatch e
theorem looks_ns {M:Model} {h:Heap} {a:Addr} {m:Str → Option Value} (x:h.Ns a m) (name:Str):Looks M h (nsGet a name) (m name):=fun A Q E s k q => wpAny_nsGet (x.keeps k) q
theorem looks_opaque' {M:Model} {h:Heap} {C:Addr} {mc:Str → Option Value} (x:h.Ns cStatics mc) (e:mc "thirdparty.any" = none):Looks M h (opaqueClassAbove (.ref C)) none :=
 Looks.andThen (a:=false) ((by have:=looks_ns (M:=M) x "thirdparty.any"; rw [e] at this; exact this:Looks M h (nsGet cStatics "thirdparty.any") none).andThen .now) (by show Looks M h (if (!false) = true then pure none else _) none; rw [if_pos (show (!false) = true from rfl)]; exact .now)
theorem cattr_of {C N:Addr} {mN mc:Str → Option Value} {name x:Str} {t:Tok} (X:ClsAt W.h₀ C N mN) (hv:mN name = some (.str x t)) (hs:W.h₀.Ns cStatics mc) (hmc:mc "thirdparty.any" = none) (hty:findIn [] (.type "type") name = some none)
  {y:Option Value} (hob:typeLookup (.type "object") name = pure y) (hheld:heldUnderItsOwnName name (.str x t) = false):ClsAttr W C name (.str x t):=by
 intro A s expr Q hk hQ
 obtain ⟨h,g,dr,tk,os⟩:=s
 have hk:∀ b o,W.h₀.get? b = some o → h.get? b = some o:=hk
 obtain ⟨nm,q,bs,sn,sub,col,dd,k0,k1,k2,k3,k5,hC⟩:=X.obj
 have hC':=hk _ _ hC
 have hN:=X.ns.keeps hk
 have ho:Looks (model W.prog W.w) h (opaqueClassAbove (.ref C)) none:=(looks_opaque' hs hmc).keeps hk
 have ht:Looks (model W.prog W.w) h (typeOf (.ref C)) (.type "type"):=fun A Q E s k q => wpAny_typeOf (T:="type") ⟨_,k _ _ hC',rfl⟩ q
 have hga:findIn ([]:Frag) (.type "type") "__getattribute__" = some (some (.builtin "type.__getattribute__")):=type_tga
 have X0:∀ h,Frag.In [] h:=fun h => noFrag
 refine wpAny_bind (wpAny_mkText (wpAny_holding (wpAny_bind (ht _ _ _ _ (fun _ _ e => e) (wpAny_bind (looks_findIn (X0 _) hga _ _ _ _ (fun _ _ e => e) ?_))))))
 dsimp only
 rw [show (onTheHeap (.type "type") && Value.builtin "type.__getattribute__" == Value.builtin "object.__getattribute__") = false from rfl,if_neg (by decide)]
 have hb:Looks (model W.prog W.w) h (hookBefore (.type "type")) none:=Looks.of_pure rfl
 refine wpAny_bind (hb _ _ _ _ (fun _ _ e => e) (wpAny_bind (wpAny_attempt (wpAny_holding ?_))))
 unfold callGetattribute
 rw [show (expr && onTheHeap (Value.builtin "type.__getattribute__")) = false from Bool.and_false _,if_neg (by decide)]
 unfold boundAndCalled
 rw [KF.slot_tga.bind]
 refine wpAny_bind (wpAny_pure ?_)
 show wpAny _ _ (call (.builtin "type.__getattribute__") [.ref C,.str name tk]) _ _ _
 refine wpAny_call ?_;refine codeAny_call_builtin KF.slot_tga.plain KF.entry_tga ?_
 have hi:subIn ([]:Frag) (.type "type") (.type "type") = some true:=by decide +kernel
 refine @check_slot (model W.prog W.w) _ _ ⟨h,g,dr,tk + 1,os⟩ "type.__getattribute__" "type" "__getattribute__" (.ref C) [.str name tk] [] _ (by decide +kernel) (by decide +kernel) (ht.andThen (looks_subIn (X0 _) hi)) (KF.args_tga (.ref C) (.str name tk)) ?_
 unfold Builtin.«type.__getattribute__»
 have L1:=looks_findIn (M:=model W.prog W.w) (X0 h) hty
 refine wpAny_bind (wpAny_pure (wpAny_bind (ho.at (wpAny_bind (ht.at (wpAny_bind (L1.at (wpAny_bind (wpAny_pure ?_)))))))))
 dsimp only
 refine wpAny_bind ?_;refine wpAny_typeLookup_exc hC' hN PySem.F.mro_object hob ?_
 rw [hv]
 dsimp only
 rw [hheld]
 simp only [Bool.false_eq_true,if_false]
 have T1:Looks (model W.prog W.w) h (typeOf (.str x t)) (.type "str"):=Looks.of_pure rfl
 refine wpAny_bind (T1.at ?_)
 rw [if_neg (by decide)]
 refine wpAny_bind (wpAny_of_eq noGet_str ?_)
 dsimp only
 exact wpAny_bind (wpAny_pure (wpAny_pure (wpAny_pure hQ)))
end
section
set_option backward.match.sparseCases false
noncomputable abbrev pw:Program:=PySem.Challenge.pw_uc0061_01
noncomputable def stM (k:Nat):Stmt:=(pw.main.body[k]?).getD (.Pass default)
noncomputable def clsBody:Stmt → List Stmt
 | .ClassDef _ _ _ b _ _ _ _ _ _ _ => b
 | _ => []
noncomputable def stC (k j:Nat):Stmt:=((clsBody (stM k))[j]?).getD (.Pass default)
noncomputable def bodyOf:Stmt → List Stmt
 | .FunctionDef _ _ b _ _ _ _ _ _ _ => b
 | _ => []
noncomputable def argsOf:Stmt → Arguments
 | .FunctionDef _ p _ _ _ _ _ _ _ _ => p
 | _ => default
noncomputable def fdE (st:Stmt) (q:Str) (cd:Addr) (dV pm:Value):FuncData :=
 match st with
 | .FunctionDef name params body _ _ _ scope _ _ _ => { name,qualname:=q,params,body:=.stmts body,scope,globals:=mainGlobals,closure:=[],defaults:=dV,kwdefaults:=.none,pyModule:=pm,code:=.ref cd,builtins:=builtinsNs }
 | _ => default
noncomputable def psOf (p:Arguments):List Str:=p.args.map (·.arg) ++ p.kwonlyargs.map (·.arg) ++ (p.kwarg.map (·.arg)).toList
noncomputable def fiOf (st:Stmt) (q:Str) (cd:Addr) (dV pm:Value) (tb:Option Tb):FI :=
 { fd:=fdE st q cd dV pm,body:=bodyOf st,ps:=psOf (argsOf st),is:=((psOf (argsOf st)).mapM (stIx { names:=(fdE st q cd dV pm).scope.names,own:=true,qual:=q ++ ".<locals>.",tb:=tb,clo:=tb.map (·.q) })).getD [],npos:=(argsOf st).args.length,kwn:=(argsOf st).kwonlyargs.map (·.arg),kwd:=(argsOf st).kwarg.isSome,tb:=tb }
noncomputable def pmD:Value:=.str "cpy313.dis" 289
noncomputable def pmL:Value:=.str "cpy313._pylong" 332
noncomputable def pmW:Value:=.str "cpy313.tabnanny" 414
noncomputable def pmH:Value:=.str "cpy313.wsgiref.headers" 508
noncomputable def pmZ:Value:=.str "law_uc0061_01" 771
noncomputable def posLine:Stmt → Nat × Nat
 | .FunctionDef _ _ _ _ _ _ _ _ _ pos => (pos.line,pos.col)
 | _ => (0,0)
noncomputable def innerOf (st:Stmt):Stmt:=((bodyOf st).find? fun s => match s with | .FunctionDef .. => true | _ => false).getD (.Pass default)
noncomputable def tb66:Tb:=⟨66,62,(posLine (innerOf (stM 9))).1,(posLine (innerOf (stM 9))).2,"_int2digits.<locals>.inner"⟩
noncomputable def tb73:Tb:=⟨73,69,(posLine (innerOf (stM 10))).1,(posLine (innerOf (stM 10))).2,"_digits2int.<locals>.inner"⟩
noncomputable def fi46:FI:=fiOf (stM 4) "pretty_flags" 45 .none pmD none
noncomputable def fi53:FI:=fiOf (stM 7) "_div2n1n" 52 .none pmL none
noncomputable def fi60:FI:=fiOf (stM 8) "_div3n2n" 59 .none pmL none
noncomputable def fi67:FI:=fiOf (stM 9) "_int2digits" 66 .none pmL (some tb66)
noncomputable def fi74:FI:=fiOf (stM 10) "_digits2int" 73 .none pmL (some tb73)
noncomputable def fi81:FI:=fiOf (stM 11) "_divmod_pos" 80 .none pmL none
noncomputable def fi88:FI:=fiOf (stM 12) "int_divmod" 87 .none pmL none
noncomputable def fi105:FI:=fiOf (stC 14 1) "Whitespace.__init__" 104 .none pmW none
noncomputable def fi126:FI:=fiOf (stC 14 4) "Whitespace.equal" 125 .none pmW none
noncomputable def fi192:FI:=fiOf (stC 20 0) "Headers.__init__" 191 (.ref 185) pmH none
noncomputable def fi199:FI:=fiOf (stC 20 1) "Headers._convert_string_type" 198 .none pmH none
noncomputable def fi237:FI:=fiOf (stC 20 7) "Headers.get_all" 236 .none pmH none
noncomputable def fi262:FI:=fiOf (stC 20 11) "Headers.items" 261 .none pmH none
noncomputable def fi295:FI:=fiOf (stC 20 16) "Headers.add_header" 294 .none pmH none
noncomputable def fi309:FI:=fiOf (stM 22) "_law_cells" 308 .none pmZ none
noncomputable def fi316:FI:=fiOf (stM 23) "_law_word" 315 .none pmZ none
noncomputable def fi323:FI:=fiOf (stM 24) "_law_runs" 322 .none pmZ none
noncomputable def fi330:FI:=fiOf (stM 25) "_law_table" 329 .none pmZ none
noncomputable def fi337:FI:=fiOf (stM 26) "_law_counted" 336 .none pmZ none
noncomputable def fi342:FI:=fiOf (stM 27) "_law_sums" 341 .none pmZ none
noncomputable def fi347:FI:=fiOf (stM 28) "law" 346 .none pmZ none
noncomputable def fns:List (Addr × FI):=[(46,fi46),(53,fi53),(60,fi60),(67,fi67),(74,fi74),(81,fi81),(88,fi88),(105,fi105),(126,fi126),(192,fi192),(199,fi199),(237,fi237),(262,fi262),(295,fi295),(309,fi309),(316,fi316),(323,fi323),(330,fi330),(337,fi337),(342,fi342),(347,fi347)]
noncomputable def globs:List (Str × AV):=[("pretty_flags",.cst (.ref 46)),("_div2n1n",.cst (.ref 53)),("_div3n2n",.cst (.ref 60)),("_int2digits",.cst (.ref 67)),("_digits2int",.cst (.ref 74)),("_divmod_pos",.cst (.ref 81)),("int_divmod",.cst (.ref 88)),("Whitespace",.cst (.ref 150)),("Headers",.cst (.ref 298)),
 ("_law_cells",.cst (.ref 309)),("_law_word",.cst (.ref 316)),("_law_runs",.cst (.ref 323)),("_law_table",.cst (.ref 330)),("_law_counted",.cst (.ref 337)),("_law_sums",.cst (.ref 342)),("COMPILER_FLAG_NAMES",.cst (.ref 39)),("_DIV_LIMIT",.int 4000),("_name_disallowed_re",.cst (.ref 164)),("_value_disallowed_re",.cst (.ref 169))]
noncomputable def blts:List (Str × AV):=[("len",.cst (.builtin "len")),("abs",.cst (.builtin "abs")),("hex",.cst (.builtin "hex")),("divmod",.cst (.builtin "divmod")),("sum",.cst (.builtin "sum")),("max",.cst (.builtin "max")),("sorted",.cst (.builtin "sorted")),
 ("tuple",.cst (.type "tuple")),("type",.cst (.type "type")),("range",.cst (.type "range")),("reversed",.cst (.type "reversed")),("str",.cst (.type "str")),("list",.cst (.type "list")),("int",.cst (.type "int"))]
noncomputable def meths:List ((Addr × Str) × Addr):=[((298,"get_all"),237),((298,"add_header"),295),((298,"items"),262),((298,"_convert_string_type"),199),((150,"equal"),126)]
noncomputable def plains:List (Addr × Str):=[(150,"raw"),(150,"n"),(150,"nt"),(150,"norm"),(150,"is_simple"),(298,"_headers")]
noncomputable def flagNames:List (Int × Str):=[(1,"OPTIMIZED"),(2,"NEWLOCALS"),(4,"VARARGS"),(8,"VARKEYWORDS"),(16,"NESTED"),(32,"GENERATOR"),(64,"NOFREE"),(128,"COROUTINE"),(256,"ITERABLE_COROUTINE"),(512,"ASYNC_GENERATOR")]
noncomputable def GP0:Gl where
 name:=fun x => (globs ++ blts).lookup x
 fn:=fun a => fns.lookup a
 user:=fun x => (["get_all","add_header","items","equal","_convert_string_type"]:List Str).contains x
 meth:=fun C x => meths.lookup (C,x)
 init:=fun C => ([(150,105),(298,192)]:List (Addr × Addr)).lookup C
 plain:=fun C x => plains.contains (C,x)
 cattr:=fun C x => if C = 150 then ([("S",.str " "),("T",.str "\t")]:List (Str × AV)).lookup x else none
 pats:=[164,169]
 dict:=39
 dmap:=fun k => flagNames.lookup k
end
section
set_option backward.match.sparseCases false
noncomputable def fnObj (fi:FI):Obj:={ cls:=.type "function",data:=.func fi.fd }
noncomputable def codeOf (v:Value):Addr:=match v with | .ref a => a | _ => 0
noncomputable def dataF:Data → Option (Array Value)
 | .fields vs => some vs
 | _ => none
noncomputable def dataP:Data → Bool
 | .plain => true
 | _ => false
noncomputable def vStr:Value → Option Str
 | .str q _ => some q
 | _ => none
noncomputable def vK:Value → Nat
 | .str .. => 2
 | .int .. => 3
 | .bool _ => 4
 | _ => 0
noncomputable def codeQ (h:Heap) (a:Addr):Option Str:=(h.get? a).bind fun o => (dataF o.data).bind fun vs => (vs[1]?).bind vStr
noncomputable def isTyp (T:String) (v:Value):Bool:=decide (v = .type T)
noncomputable def hdB (P:Addr) (vs:Array Value):Bool:=decide (vs[11]? = some (.ref P)) && ((vK (vs.getD 18 .none) == 2) && ((vK (vs.getD 7 .none) == 3) && ((vK (vs.getD 9 .none) == 4) && (vK (vs.getD 10 .none) == 3))))
noncomputable def hdOk (h:Heap) (c P:Addr):Bool:=((h.get? c).bind fun o => (dataF o.data).map fun vs => isTyp "code" o.cls && hdB P vs).getD false
noncomputable def modOk (h:Heap) (a:Addr):Bool:=((h.get? a).map fun o => isTyp "module" o.cls && (decide (o.dict = some builtinsNs) && dataP o.data)).getD false
noncomputable def clsObj (nm:Str) (t1 t2 C N:Nat):Obj:=excClassObj nm nm C N [.type "object"] [.type "object"] true [] [] false none none none none (some (.str nm t1)) (some (.str nm t2)) (some (.bool true)) "object.__new__"
noncomputable def dEnt (k:Int) (t:Nat) (x:Str):DictEntry:={ key:=.int k t,val:=.str x (t + 1),hash:=k }
noncomputable def dictEs:List DictEntry:=[dEnt 1 291 "OPTIMIZED",dEnt 2 293 "NEWLOCALS",dEnt 4 295 "VARARGS",dEnt 8 297 "VARKEYWORDS",dEnt 16 299 "NESTED",dEnt 32 301 "GENERATOR",dEnt 64 303 "NOFREE",dEnt 128 305 "COROUTINE",dEnt 256 307 "ITERABLE_COROUTINE",dEnt 512 309 "ASYNC_GENERATOR"]
noncomputable def dictObj:Obj:={ cls:=.type "dict",data:=.dict dictEs.toArray 10 }
noncomputable def nameCode:List Nat:=[14,10,4,1,1,22,0,31,16,127,0,13,7,22,0,31,16,127,0,1]
noncomputable def valueCode:List Nat:=[14,14,4,1,1,9,4294966783,0,0,2147483648,0,0,0,0,0,13,11,9,4294966783,0,0,2147483648,0,0,0,0,0,1]
noncomputable def codeTup (l:List Nat):Obj:={ cls:=.type "tuple",data:=.seq (l.map fun (n:Nat) => Value.int (n:Int) 0).toArray }
noncomputable def patObj (x:Str) (t1 t2 T:Nat):Obj:={ cls:=.type "re.Pattern",data:=.fields #[.str x t1,.int 32 t2,.int 0 0,.none,.none,.ref T,.int 0 0] }
noncomputable def objs:List (Addr × Obj):=fns.map (fun p => (p.1,fnObj p.2)) ++ [(150,clsObj "Whitespace" 416 424 150 149),(298,clsObj "Headers" 614 622 298 297),(39,dictObj),(185,{ cls:=.type "tuple",data:=.seq #[.none] }),(163,codeTup nameCode),(168,codeTup valueCode),
 (164,patObj "[\\x00-\\x1F\\x7F]" 545 568 163),(169,patObj "[\\x00-\\x08\\x0A-\\x1F\\x7F]" 571 602 168),(62,tabObj #[]),(69,tabObj #[])]
noncomputable def valOf:AV → Value
 | .cst v => v
 | .int i => .int i 334
 | _ => .none
noncomputable def qG:List (Str × Value):=globs.map (fun p => (p.1,valOf p.2)) ++ ([("__builtins__",.ref 4),("law",.ref 347)]:List (Str × Value))
noncomputable def qB:List (Str × Value):=blts.map fun p => (p.1,valOf p.2)
noncomputable def qN:List ((Addr × Str) × Option Value):=[((149,"__getattribute__"),none),((149,"__getattr__"),none),((149,"__setattr__"),none),((149,"raw"),none),((149,"n"),none),((149,"nt"),none),((149,"norm"),none),((149,"is_simple"),none),((149,"__init__"),some (.ref 105)),((149,"equal"),some (.ref 126)),((149,"S"),some (.str " " 429)),((149,"T"),some (.str "\t" 430)),
 ((297,"__getattribute__"),none),((297,"__getattr__"),none),((297,"__setattr__"),none),((297,"_headers"),none),((297,"__init__"),some (.ref 192)),((297,"_convert_string_type"),some (.ref 199)),((297,"get_all"),some (.ref 237)),((297,"items"),some (.ref 262)),((297,"add_header"),some (.ref 295)),((cStatics,"thirdparty.any"),none)]
noncomputable abbrev OB1:=List (Option Obj) × List (Option Str) × List (Option Value) × List (Option Value) × List (Option Value) × List (Option Value) × Bool
noncomputable def obs (s:Shared):OB1 :=
 (objs.map fun p => s.heap.get? p.1,fns.map fun p => codeQ s.heap (codeOf p.2.fd.code),qG.map fun p => s.heap.nsMap mainGlobals p.1,qB.map fun p => s.heap.nsMap mainGlobals p.1,qB.map fun p => s.heap.nsMap builtinsNs p.1,qN.map fun p => s.heap.nsMap p.1.1 p.1.2,
  (s.heap.isNs mainGlobals && (s.heap.isNs builtinsNs && (s.heap.isNs 149 && (s.heap.isNs 297 && s.heap.isNs cStatics)))) && (hdOk s.heap 66 62 && (hdOk s.heap 73 69 && (modOk s.heap 4 && s.heap.isNs 6))))
noncomputable def seenAs:OB1 :=
 (objs.map fun p => some p.2,fns.map fun p => some p.2.fd.qualname,qG.map fun p => some p.2,qB.map fun _ => none,qB.map fun p => some p.2,qN.map fun p => p.2,true)
end
section
noncomputable def mkT:List Obj → BT → Nat → Option BT
 | [],t,_ => some t
 | o :: r,t,n => if ((t.ins n o).get n).isSome = true then mkT r (t.ins n o) (n + 1) else none
theorem mkT_ok {life:Life} {l:List Obj}:∀ {t t':BT} {n:Nat},mkT l t n = some t' → (absHeap t' (n + l.length) life).objs.toList = (absHeap t n life).objs.toList ++ l:=by
 induction l with
 | nil => exact fun h => Option.some.inj h ▸ (List.append_nil _).symm
 | cons o r ih =>
  intro t t' n h
  obtain ⟨e,h⟩:=ifT h
  have q:=ih h
  rw [absHeap_ins e,Nat.add_right_comm] at q
  exact q.trans ((congrArg (· ++ r) Array.toList_push).trans (List.append_assoc ..))
noncomputable def toT (s:Shared) (t:BT):SharedT:=⟨t,s.heap.objs.toList.length,s.heap.life,s.gens,s.drawn,s.toks,s.os⟩
theorem toT_abs {s:Shared} {t:BT} (h:mkT s.heap.objs.toList .nil 0 = some t):(toT s t).abs = s:=by
 have q:absHeap t s.heap.objs.toList.length s.heap.life = s.heap:=congrArg (Heap.mk · s.heap.life) (Array.toList_inj.mp ((congrArg (fun n => (absHeap t n s.heap.life).objs.toList) (Nat.zero_add _).symm).trans (mkT_ok h)))
 exact congrArg (Shared.mk · s.gens s.drawn s.toks s.os) q
noncomputable def runT (tb:String → Option Builtin) (p:Program) (w:World) (n₀:Nat) (ann:Option Value):Nat → SharedT → Thread → Option SharedT
 | 0,_,_ => none
 | n + 1,s,t => if through t = true then some s else if stepOk n₀ ann t = true then (stepT (denote tb) p w s t).bind fun q => Prod.casesOn q fun s' t' => runT tb p w n₀ ann n s' t' else none
section
variable {tb:String → Option Builtin} {p:Program} {w:World} {n₀:Nat} {ann:Option Value}
theorem top1 {n:Nat} {s:Shared} {t:Thread} (h:through t = true):topRun tb p w n₀ ann (n + 1) s t = some s:=by
 show (match through t with | true => some s | false => _) = _
 rw [h]
theorem top2 {n:Nat} {s s':Shared} {t t':Thread} (h:through t = false) (h1:stepOk n₀ ann t = true) (h2:step (denote tb) p w s t = .go s' t'):topRun tb p w n₀ ann (n + 1) s t = topRun tb p w n₀ ann n s' t':=by
 show (match through t with | true => some s | false => match stepOk n₀ ann t with | false => none | true => match step (denote tb) p w s t with | .go s' t' => topRun tb p w n₀ ann n s' t' | .halt _ _ => none) = _
 rw [h,h1,h2]
theorem runT_of {n:Nat} {s':SharedT}:∀ {s:SharedT} {t:Thread},runT tb p w n₀ ann n s t = some s' → topRun tb p w n₀ ann n s.abs t = some s'.abs:=by
 induction n with
 | zero => exact noS
 | succ n ih =>
  intro s t h
  by_cases e:through t = true
  ·exact (top1 e).trans (congrArg (fun z => some z.abs) (Option.some.inj (ifP e h)))
  ·obtain ⟨e1,h⟩:=ifT (ifQ e h)
   exact bindE h fun q hs h => (top2 (eq_false_of_ne_true e) e1 (stepT_spec hs)).trans (ih h)
end
noncomputable def okT1 (p:Program) (s₀ s:Shared):Bool:=staticsOk (importedModules p.main.body) s₀.heap s.heap && namesBound p s.heap && gensDone s && laidKept s₀.heap s.heap
noncomputable def fromT (tb:String → Option Builtin) (p:Program) (w:World) (N:Nat) (s₀:Shared):Option Shared :=
 if (s₀.heap.isNs mainGlobals && s₀.gens.size == 0) = true then (mkT s₀.heap.objs.toList .nil 0).bind fun t => (runT tb p w s₀.heap.objs.size (s₀.heap.nsMap mainGlobals "__annotations__") N (toT s₀ t) (topStub p)).bind fun s => if okT1 p s₀ s.abs = true then some s.abs else none else none
theorem fromT_of {tb:String → Option Builtin} {p:Program} {w:World} {N:Nat} {s₀ s:Shared} (h:fromT tb p w N s₀ = some s):topFrom tb p w N s₀ = some s:=by
 obtain ⟨h1,h⟩:=ifT h
 refine bindE h fun t ht h => bindE h fun s₁ hr h => ?_
 obtain ⟨h2,h⟩:=ifS h
 have h3:=toT_abs ht ▸ runT_of hr
 show (match s₀.heap.isNs mainGlobals && s₀.gens.size == 0 with | true => (topRun tb p w s₀.heap.objs.size (s₀.heap.nsMap mainGlobals "__annotations__") N s₀ (topStub p)).bind fun s₁ => (match okT1 p s₀ s₁ with | true => some s₁ | false => none) | false => none) = _
 rw [h1,h3]
 show (match okT1 p s₀ s₁.abs with | true => some s₁.abs | false => none) = _
 rw [h2]
 exact congrArg some h
theorem leftT {p q:Program} {loose:List Str} {Xt:Shared → Bool} {α:Type} {Yf:Shared → α} {Ya:α} {N:Nat} {g0:Bool} (row:String)
  (h:∀ b (w:World),(fencedOpening treeTable p w N).map (fun s₀ => (fromT treeTable p (w.withFollow row b) N s₀).map (fun s => (openSeen q loose (importedModules p.main.body) Xt g0 s,Yf s))) = some (some (openGood q loose,Ya))):LeftO p q loose Xt Yf (fun _ => Ya) N g0:=fun w => by
 obtain ⟨s₀,a,c⟩:=mapS (h (w.params.followText row) w)
 obtain ⟨s,d,e⟩:=mapS c
 unfold openEnds
 rw [a]
 rw [World.withFollow_self] at d
 show (topFrom treeTable p w N s₀).map _ = _
 rw [fromT_of d]
 exact congrArg some e
end
noncomputable def view:Program:=PySem.W.view pw [0,28]
noncomputable def loose:List Str:=["_wall","COMPILER_FLAG_NAMES","pretty_flags","_DIV_LIMIT","_div2n1n","_div3n2n","_int2digits","_digits2int","_divmod_pos","int_divmod","Whitespace","tspecials","_name_disallowed_re","_value_disallowed_re","_formatparam","Headers","_law_cells","_law_word","_law_runs","_law_table","_law_counted","_law_sums"]
noncomputable abbrev rw1:=PySem.Challenge.rw_uc0061_01
noncomputable def Xt (s:Shared):Bool:=recOk (RowW.records rw1.row.toRowW) s
set_option maxHeartbeats 0 in
theorem leftF (w:World):(fencedOpening treeTable pw w 4400).map (fun s₀ => (fromT treeTable pw (w.withFollow "special-get-raises" false) 4400 s₀).map (fun s => (openSeen view loose (importedModules pw.main.body) Xt true s,obs s))) = some (some (openGood view loose,seenAs)):=by kernel_rfl
set_option maxHeartbeats 0 in
theorem leftTr (w:World):(fencedOpening treeTable pw w 4400).map (fun s₀ => (fromT treeTable pw (w.withFollow "special-get-raises" true) 4400 s₀).map (fun s => (openSeen view loose (importedModules pw.main.body) Xt true s,obs s))) = some (some (openGood view loose,seenAs)):=by kernel_rfl
theorem left:LeftO pw view loose Xt obs (fun _ => seenAs) 4400:=leftT "special-get-raises" fun b w => by
 cases b with
 | false => exact leftF w
 | true => exact leftTr w
noncomputable def dLaw:DefRec:=match defOf view rw1.row.name with | some p => p.1 | none => ⟨"",default,[],default,default⟩
set_option maxHeartbeats 0 in
theorem row_holds (said:rw1.row.wellSaid = true) (call:WalkX view loose (fun _ _ => True) obs (fun _ => seenAs) rw1.row.toRowW dLaw [] fun f vs => PySem.call f vs):rw1.row.Holds:=by
 refine holds_openX (q:=view) (loose:=loose) (Xt:=Xt) (XP:=fun _ _ => True) (Yf:=obs) (Ya:=fun _ => seenAs) (N:=4400) (d:=dLaw) (kwd:=[]) left (fun s e => trivial) (fun _ _ _ _ _ => trivial) ?_ ?_ ?_ (fun s e => recFacts_of e) rfl said ?_ ⟨rfl,rfl,rfl,rfl,rfl,by decide +kernel⟩ ?_ call
 ·kernel_rfl
 ·kernel_rfl
 ·kernel_rfl
 ·kernel_rfl
 ·exact ⟨[ofPy (PyData.list [.int 3,.int 1])],by decide +kernel,by decide +kernel⟩
theorem law_said:OpenLaw.wellSaid rw1 = true:=by kernel_rfl
theorem law_holds (call:WalkX view loose (fun _ _ => True) obs (fun _ => seenAs) rw1.row.toRowW dLaw [] fun f vs => PySem.call f vs):rw1.Holds:=holds_law law_said fun said => row_holds said call
noncomputable def fiChk (fi:FI):Bool:=!fi.fd.scope.isCoroutine && !fi.fd.scope.isGenerator && (fi.fd.scope.kind == .function) && distinct fi.fd.scope.names && fi.fd.closure.isEmpty && decide (fi.fd.globals = mainGlobals) && decide (fi.fd.builtins = builtinsNs) && fi.fd.scope.names.all (fun p => p.2 != .free) && (fi.ps.mapM (stIx (fsc fi))).isSome
structure FIS (fi:FI):Prop where
 chk:fiChk fi = true
 body:fi.fd.body = .stmts fi.body
 is:fi.ps.mapM (stIx (fsc fi)) = some fi.is
 len:fi.ps.length = fi.npos + fi.kwn.length + (if fi.kwd then 1 else 0)
theorem st46:FIS fi46:=⟨by kernel_rfl,by kernel_rfl,by kernel_rfl,by kernel_rfl⟩
theorem st53:FIS fi53:=⟨by kernel_rfl,by kernel_rfl,by kernel_rfl,by kernel_rfl⟩
theorem st60:FIS fi60:=⟨by kernel_rfl,by kernel_rfl,by kernel_rfl,by kernel_rfl⟩
theorem st67:FIS fi67:=⟨by kernel_rfl,by kernel_rfl,by kernel_rfl,by kernel_rfl⟩
theorem st74:FIS fi74:=⟨by kernel_rfl,by kernel_rfl,by kernel_rfl,by kernel_rfl⟩
theorem st81:FIS fi81:=⟨by kernel_rfl,by kernel_rfl,by kernel_rfl,by kernel_rfl⟩
theorem st88:FIS fi88:=⟨by kernel_rfl,by kernel_rfl,by kernel_rfl,by kernel_rfl⟩
theorem st105:FIS fi105:=⟨by kernel_rfl,by kernel_rfl,by kernel_rfl,by kernel_rfl⟩
theorem st126:FIS fi126:=⟨by kernel_rfl,by kernel_rfl,by kernel_rfl,by kernel_rfl⟩
theorem st192:FIS fi192:=⟨by kernel_rfl,by kernel_rfl,by kernel_rfl,by kernel_rfl⟩
theorem st199:FIS fi199:=⟨by kernel_rfl,by kernel_rfl,by kernel_rfl,by kernel_rfl⟩
theorem st237:FIS fi237:=⟨by kernel_rfl,by kernel_rfl,by kernel_rfl,by kernel_rfl⟩
theorem st262:FIS fi262:=⟨by kernel_rfl,by kernel_rfl,by kernel_rfl,by kernel_rfl⟩
theorem st295:FIS fi295:=⟨by kernel_rfl,by kernel_rfl,by kernel_rfl,by kernel_rfl⟩
theorem st309:FIS fi309:=⟨by kernel_rfl,by kernel_rfl,by kernel_rfl,by kernel_rfl⟩
theorem st316:FIS fi316:=⟨by kernel_rfl,by kernel_rfl,by kernel_rfl,by kernel_rfl⟩
theorem st323:FIS fi323:=⟨by kernel_rfl,by kernel_rfl,by kernel_rfl,by kernel_rfl⟩
theorem st330:FIS fi330:=⟨by kernel_rfl,by kernel_rfl,by kernel_rfl,by kernel_rfl⟩
theorem st337:FIS fi337:=⟨by kernel_rfl,by kernel_rfl,by kernel_rfl,by kernel_rfl⟩
theorem st342:FIS fi342:=⟨by kernel_rfl,by kernel_rfl,by kernel_rfl,by kernel_rfl⟩
theorem st347:FIS fi347:=⟨by kernel_rfl,by kernel_rfl,by kernel_rfl,by kernel_rfl⟩
theorem bd46 {us:List Value} (hl:us.length = 1):bindArgs fi46.fd ⟨us,[]⟩ = pure (fi46.ps.zip us):=by
 obtain ⟨u0,rfl⟩:=len1 hl
 kernel_rfl
theorem bd53 {us:List Value} (hl:us.length = 3):bindArgs fi53.fd ⟨us,[]⟩ = pure (fi53.ps.zip us):=by
 obtain ⟨u0,u1,u2,rfl⟩:=len3 hl
 kernel_rfl
theorem bd60 {us:List Value} (hl:us.length = 6):bindArgs fi60.fd ⟨us,[]⟩ = pure (fi60.ps.zip us):=by
 obtain ⟨u0,u1,u2,u3,u4,u5,rfl⟩:=len6 hl
 kernel_rfl
theorem bd67 {us:List Value} (hl:us.length = 2):bindArgs fi67.fd ⟨us,[]⟩ = pure (fi67.ps.zip us):=by
 obtain ⟨u0,u1,rfl⟩:=len2 hl
 kernel_rfl
theorem bd74 {us:List Value} (hl:us.length = 2):bindArgs fi74.fd ⟨us,[]⟩ = pure (fi74.ps.zip us):=by
 obtain ⟨u0,u1,rfl⟩:=len2 hl
 kernel_rfl
theorem bd81 {us:List Value} (hl:us.length = 2):bindArgs fi81.fd ⟨us,[]⟩ = pure (fi81.ps.zip us):=by
 obtain ⟨u0,u1,rfl⟩:=len2 hl
 kernel_rfl
theorem bd88 {us:List Value} (hl:us.length = 2):bindArgs fi88.fd ⟨us,[]⟩ = pure (fi88.ps.zip us):=by
 obtain ⟨u0,u1,rfl⟩:=len2 hl
 kernel_rfl
theorem bd105 {us:List Value} (hl:us.length = 2):bindArgs fi105.fd ⟨us,[]⟩ = pure (fi105.ps.zip us):=by
 obtain ⟨u0,u1,rfl⟩:=len2 hl
 kernel_rfl
theorem bd126 {us:List Value} (hl:us.length = 2):bindArgs fi126.fd ⟨us,[]⟩ = pure (fi126.ps.zip us):=by
 obtain ⟨u0,u1,rfl⟩:=len2 hl
 kernel_rfl
theorem bd192 {s:Shared} {us:List Value} (h:s.heap.get? 185 = some { cls:=.type "tuple",data:=.seq #[.none] }) (hl:us.length = 2):BindsTo s fi192.fd ⟨us,[]⟩ (fi192.ps.zip us):=by
 obtain ⟨u0,u1,rfl⟩:=len2 hl
 exact BindsTo.of_defaults (fd:=fi192.fd) (T:=185) rfl h rfl rfl rfl
theorem bd199 {us ks:List Value} (hl:us.length = 2) (hk:ks.length = 1):bindArgs fi199.fd ⟨us,fi199.kwn.zip ks⟩ = pure (fi199.ps.zip (us ++ ks)):=by
 obtain ⟨u0,u1,rfl⟩:=len2 hl
 obtain ⟨k0,rfl⟩:=len1 hk
 kernel_rfl
theorem bd237 {us:List Value} (hl:us.length = 2):bindArgs fi237.fd ⟨us,[]⟩ = pure (fi237.ps.zip us):=by
 obtain ⟨u0,u1,rfl⟩:=len2 hl
 kernel_rfl
theorem bd262 {us:List Value} (hl:us.length = 1):bindArgs fi262.fd ⟨us,[]⟩ = pure (fi262.ps.zip us):=by
 obtain ⟨u0,rfl⟩:=len1 hl
 kernel_rfl
theorem bd295 {us:List Value} (hl:us.length = 3):bindArgs fi295.fd ⟨us,[]⟩ = (alloc emptyO >>= fun d => pure (fi295.ps.zip (us ++ [.ref d]))):=by
 obtain ⟨u0,u1,u2,rfl⟩:=len3 hl
 kernel_rfl
theorem bd309 {us:List Value} (hl:us.length = 1):bindArgs fi309.fd ⟨us,[]⟩ = pure (fi309.ps.zip us):=by
 obtain ⟨u0,rfl⟩:=len1 hl
 kernel_rfl
theorem bd316 {us:List Value} (hl:us.length = 1):bindArgs fi316.fd ⟨us,[]⟩ = pure (fi316.ps.zip us):=by
 obtain ⟨u0,rfl⟩:=len1 hl
 kernel_rfl
theorem bd323 {us:List Value} (hl:us.length = 1):bindArgs fi323.fd ⟨us,[]⟩ = pure (fi323.ps.zip us):=by
 obtain ⟨u0,rfl⟩:=len1 hl
 kernel_rfl
theorem bd330 {us:List Value} (hl:us.length = 1):bindArgs fi330.fd ⟨us,[]⟩ = pure (fi330.ps.zip us):=by
 obtain ⟨u0,rfl⟩:=len1 hl
 kernel_rfl
theorem bd337 {us:List Value} (hl:us.length = 1):bindArgs fi337.fd ⟨us,[]⟩ = pure (fi337.ps.zip us):=by
 obtain ⟨u0,rfl⟩:=len1 hl
 kernel_rfl
theorem bd342 {us:List Value} (hl:us.length = 5):bindArgs fi342.fd ⟨us,[]⟩ = pure (fi342.ps.zip us):=by
 obtain ⟨u0,u1,u2,u3,u4,rfl⟩:=len5 hl
 kernel_rfl
theorem bd347 {us:List Value} (hl:us.length = 1):bindArgs fi347.fd ⟨us,[]⟩ = pure (fi347.ps.zip us):=by
 obtain ⟨u0,rfl⟩:=len1 hl
 kernel_rfl
section
theorem dataFI {d:Data} {vs:Array Value}:dataF d = some vs → d = .fields vs:=by cases d <;> first | exact noS | exact fun h => congrArg Data.fields (Option.some.inj h)
theorem dataPI {d:Data}:dataP d = true → d = .plain:=by cases d <;> first | exact fun _ => rfl | exact fun h => nomatch h
theorem vStrI {v:Value} {q:Str}:vStr v = some q → ∃ t,v = .str q t:=by cases v <;> first | exact noS | exact fun h => ⟨_,congrArg (Value.str · _) (Option.some.inj h)⟩
theorem vK2 {v:Value}:(vK v == 2) = true → ∃ q t,v = .str q t:=by cases v <;> first | exact fun _ => ⟨_,_,rfl⟩ | exact fun h => nomatch h
theorem vK3 {v:Value}:(vK v == 3) = true → ∃ q t,v = .int q t:=by cases v <;> first | exact fun _ => ⟨_,_,rfl⟩ | exact fun h => nomatch h
theorem vK4 {v:Value}:(vK v == 4) = true → ∃ q,v = .bool q:=by cases v <;> first | exact fun _ => ⟨_,rfl⟩ | exact fun h => nomatch h
theorem getT {x:Option Bool}:x.getD false = true → x = some true:=by cases x <;> first | exact fun h => congrArg some h | exact fun h => nomatch h
theorem codeQ_ok {h:Heap} {a:Addr} {q:Str} (e:codeQ h a = some q):∃ o vs t,h.get? a = some o ∧ o.data = .fields vs ∧ vs[1]? = some (.str q t) :=
 bindE e fun o ho e => bindE e fun vs hd e => bindE e fun _ h1 e => (vStrI e).elim fun t e => ⟨o,vs,t,ho,dataFI hd,h1.trans (congrArg some e)⟩
theorem hdB_ok {h:Heap} {c P:Addr} {o:Obj} {vs:Array Value} (ho:h.get? c = some o) (hc:o.cls = .type "code") (hd:o.data = .fields vs) (e:hdB P vs = true) (hne:c ≠ P):CodeHd h c P:=by
 have e1:=of_decide_eq_true (and2 e).1
 have e2:=and2 (and2 e).2
 have e3:=and2 e2.2
 have e4:=and2 e3.2
 obtain ⟨_,_,g2⟩:=vK2 e2.1
 obtain ⟨_,_,g3⟩:=vK3 e3.1
 obtain ⟨_,g4⟩:=vK4 e4.1
 obtain ⟨_,_,g5⟩:=vK3 e4.2
 exact ⟨o,vs,_,_,_,_,_,_,_,ho,hc,hd,e1,(Array.getD_eq_getD_getElem?).trans (congrArg (·.getD .none) e1),g2,g3,g4,g5,hne⟩
theorem hdOk_ok {h:Heap} {c P:Addr} (e:hdOk h c P = true) (hne:c ≠ P):CodeHd h c P :=
 bindE (getT e) fun _ ho e => mapE e fun _ hd e => hdB_ok ho (of_decide_eq_true (and2 e).1) (dataFI hd) (and2 e).2 hne
theorem modOk_ok {h:Heap} {a:Addr} (e:modOk h a = true):∃ o,h.get? a = some o ∧ o.cls = .type "module" ∧ o.dict = some builtinsNs ∧ o.data = .plain :=
 mapE (getT e) fun o ho e => ⟨o,ho,of_decide_eq_true (and2 e).1,of_decide_eq_true (and2 (and2 e).2).1,dataPI (and2 (and2 e).2).2⟩
noncomputable def hid3:List Addr:=[62,69,6]
structure Seen (h:Heap) (mg mb:Str → Option Value) (mN:Addr → Str → Option Value):Prop where
 obj:∀ p ∈ objs,p.1 ∉ hid3 → h.get? p.1 = some p.2
 code:∀ p ∈ fns,codeQ h (codeOf p.2.fd.code) = some p.2.fd.qualname
 g:h.Ns mainGlobals mg
 b:h.Ns builtinsNs mb
 n1:h.Ns 149 (mN 149)
 n2:h.Ns 297 (mN 297)
 n3:h.Ns cStatics (mN cStatics)
 qg:∀ p ∈ qG,mg p.1 = some p.2
 qb1:∀ p ∈ qB,mg p.1 = none
 qb2:∀ p ∈ qB,mb p.1 = some p.2
 qn:∀ p ∈ qN,mN p.1.1 p.1.2 = p.2
 mod:modOk h 4 = true
 lim:h.NoLimit
theorem codeQ_keep {h h':Heap} {a:Addr} {q:Str} (e:codeQ h a = some q) (k:∀ o,h.get? a = some o → h'.get? a = some o):codeQ h' a = some q :=
 bindE e fun _ ho e => (congrArg (Option.bind · _) (k _ ho)).trans e
theorem modOk_keep {h h':Heap} {a:Addr} (e:modOk h a = true) (k:∀ o,h.get? a = some o → h'.get? a = some o):modOk h' a = true :=
 mapE (getT e) fun _ ho e => (congrArg (fun z:Option Obj => (z.map _).getD false) (k _ ho)).trans e
theorem hid_ns {h:Heap} {a:Addr} {m:Str → Option Value} (x:h.Ns a m) (ha:a ∉ hid3):(hideAll h hid3).Ns a m:=x.elim fun o x => x.elim fun es x => x.elim fun ep x => ⟨o,es,ep,hideAll_get _ x.1 ha,x.2⟩
theorem fns_hid:∀ p ∈ fns,codeOf p.2.fd.code ∉ hid3:=fun p hp hm => by
 have:=List.all_eq_true.mp (show (fns.all fun p => !(hid3.contains (codeOf p.2.fd.code))) = true by kernel_rfl) p hp
 rw [List.contains_iff_mem.mpr hm] at this
 cases this
section
variable {s₀ s₁:Shared} (Y:obs s₀ = seenAs) (k:∀ b o,s₀.heap.get? b = some o → s₁.heap.get? b = some o)
include Y k
omit k in
theorem seen_b:(((s₀.heap.isNs mainGlobals = true ∧ s₀.heap.isNs builtinsNs = true) ∧ s₀.heap.isNs 149 = true) ∧ s₀.heap.isNs 297 = true ∧ s₀.heap.isNs cStatics = true) ∧ (hdOk s₀.heap 66 62 = true ∧ hdOk s₀.heap 73 69 = true) ∧ modOk s₀.heap 4 = true ∧ s₀.heap.isNs 6 = true:=by
 have y:(_ && _) = true:=congrArg (·.2.2.2.2.2.2) Y
 have a:=and2 (and2 y).1
 have b:=and2 a.2
 have c:=and2 b.2
 have d:=and2 (and2 y).2
 have e:=and2 d.2
 exact ⟨⟨⟨⟨a.1,b.1⟩,c.1⟩,and2 c.2⟩,⟨d.1,e.1⟩,and2 e.2⟩
theorem seen_ob:∀ p ∈ objs,s₁.heap.get? p.1 = some p.2:=have q:∀ p ∈ objs,s₀.heap.get? p.1 = some p.2:=List.map_inj_left.mp (congrArg (·.1) Y); fun p hp => k _ _ (q p hp)
omit Y in
theorem seen_ns {a:Addr} (h:s₀.heap.isNs a = true) (ha:a ∉ hid3):(hideAll s₁.heap hid3).Ns a (s₀.heap.nsMap a):=hid_ns ((Heap.Ns.of_isNs h).keeps k) ha
theorem seen_fns:∀ p ∈ fns,codeQ (hideAll s₁.heap hid3) (codeOf p.2.fd.code) = some p.2.fd.qualname:=have q:∀ p ∈ fns,codeQ s₀.heap (codeOf p.2.fd.code) = some p.2.fd.qualname:=List.map_inj_left.mp (congrArg (·.2.1) Y); fun p hp => codeQ_keep (q p hp) fun _ e => hideAll_get _ (k _ _ e) (fns_hid p hp)
theorem seen_of (lim:s₁.heap.NoLimit) :
  Seen (hideAll s₁.heap hid3) (s₀.heap.nsMap mainGlobals) (s₀.heap.nsMap builtinsNs) (fun a => s₀.heap.nsMap a) ∧ s₀.heap.isNs 6 = true ∧ CodeHd s₁.heap 66 62 ∧ CodeHd s₁.heap 73 69 ∧ s₁.heap.get? 62 = some (tabObj #[]) ∧ s₁.heap.get? 69 = some (tabObj #[]):=by
 have b:=seen_b Y
 have ob:=seen_ob Y k
 exact ⟨⟨fun p hp ha => hideAll_get _ (ob p hp) ha,seen_fns Y k,seen_ns k b.1.1.1.1 (by decide),seen_ns k b.1.1.1.2 (by decide),seen_ns k b.1.1.2 (by decide),seen_ns k b.1.2.1 (by decide),seen_ns k b.1.2.2 (by decide),
  List.map_inj_left.mp (congrArg (·.2.2.1) Y),List.map_inj_left.mp (congrArg (·.2.2.2.1) Y),List.map_inj_left.mp (congrArg (·.2.2.2.2.1) Y),List.map_inj_left.mp (congrArg (·.2.2.2.2.2.1) Y),
  modOk_keep b.2.2.1 fun _ e => hideAll_get _ (k _ _ e) (by decide),lim.elim fun mc l => ⟨mc,l.elim fun a r => ⟨hid_ns a (by decide),r⟩⟩⟩,b.2.2.2,(hdOk_ok b.2.1.1 (by decide)).keeps k,(hdOk_ok b.2.1.2 (by decide)).keeps k,
  ob (62,tabObj #[]) (List.mem_append_right _ (by simp)),ob (69,tabObj #[]) (List.mem_append_right _ (by simp))⟩
end
end
section
variable {W:Wd} {mN:Addr → Str → Option Value}
theorem fiChk_ok {fi:FI} (h:fiChk fi = true):fi.fd.scope.isCoroutine = false ∧ fi.fd.scope.isGenerator = false ∧ fi.fd.scope.kind = .function ∧ (fi.fd.scope.names.map (·.1)).Nodup ∧ fi.fd.closure = [] ∧ fi.fd.globals = mainGlobals ∧ fi.fd.builtins = builtinsNs ∧ ∀ p ∈ fi.fd.scope.names,p.2 ≠ .free:=by
 unfold fiChk at h
 simp only [Bool.and_eq_true,Bool.not_eq_true',decide_eq_true_eq] at h
 obtain ⟨⟨⟨⟨⟨⟨⟨⟨h1,h2⟩,h3⟩,h4⟩,h5⟩,h6⟩,h7⟩,h8⟩,_⟩:=h
 refine ⟨h1,h2,eq_of_beq h3,distinct_ok h4,List.isEmpty_iff.mp h5,h6,h7,fun p hp e => ?_⟩
 have:=List.all_eq_true.mp h8 p hp
 rw [e] at this
 cases this
theorem memAt {α:Type} {l:List α} {a:α} (i:Nat) (h:l[i]? = some a):a ∈ l:=List.mem_of_getElem? h
theorem fiOk_of {a:Addr} {fi:FI} (S:Seen W.h₀ W.mg W.mb mN) (hm:(a,fi) ∈ fns) (ha:a ∉ hid3) (st:FIS fi) (hcode:fi.fd.code = .ref (codeOf fi.fd.code))
  (hb:fi.kwd = false → ∀ (s:Shared) (us ks:List Value),(∀ b o,W.h₀.get? b = some o → s.heap.get? b = some o) → us.length = fi.npos → ks.length = fi.kwn.length → BindsTo s fi.fd ⟨us,fi.kwn.zip ks⟩ (fi.ps.zip (us ++ ks)))
  (hd:fi.kwd = true → fi.kwn = [] ∧ ∀ (us:List Value),us.length = fi.npos → bindArgs fi.fd ⟨us,[]⟩ = (alloc emptyO >>= fun d => pure (fi.ps.zip (us ++ [.ref d]))))
  (ht:∀ t,fi.tb = some t → t ∈ W.tbs ∧ fi.fd.code = .ref t.c ∧ W.h₀.BuiltinsAt W.mg t.P):FIok W a fi:=by
 obtain ⟨c1,c2,c3,c4,c5,c6,c7,c8⟩:=fiChk_ok st.chk
 have ho:W.h₀.get? a = some (fnObj fi):=S.obj (a,fnObj fi) (List.mem_append_left _ (List.mem_map.mpr ⟨(a,fi),hm,rfl⟩)) ha
 obtain ⟨o,vs,t,h1,h2,h3⟩:=codeQ_ok (S.code _ hm)
 refine ⟨⟨⟨_,ho,rfl⟩,c1,c2,c3,st.body,by rw [hcode]; exact ⟨_,o,vs,t,rfl,h1,h2,h3⟩,c6,c7,c5,c4⟩,st.is,fun hk => ⟨by have:=st.len; rw [hk] at this; simpa using this,hb hk⟩,fun hk => ?_,c8,ht⟩
 obtain ⟨h1,h2⟩:=hd hk
 exact ⟨by have:=st.len; rw [hk,h1] at this; simpa using this,h1,h2⟩
theorem plainB {fi:FI} (h:fi.kwn = []) (b:∀ us:List Value,us.length = fi.npos → bindArgs fi.fd ⟨us,[]⟩ = pure (fi.ps.zip us)) (s:Shared) (us ks:List Value) (_:∀ b o,W.h₀.get? b = some o → s.heap.get? b = some o) (hl:us.length = fi.npos) (hk:ks.length = fi.kwn.length):BindsTo s fi.fd ⟨us,fi.kwn.zip ks⟩ (fi.ps.zip (us ++ ks)):=by
 rw [h] at hk ⊢
 obtain rfl:=List.length_eq_zero_iff.mp hk
 rw [List.append_nil]
 exact BindsTo.of_eq (b us hl)
theorem fiOk_p {a:Addr} {fi:FI} (S:Seen W.h₀ W.mg W.mb mN) (hm:(a,fi) ∈ fns) (ha:a ∉ hid3) (st:FIS fi) (hcode:fi.fd.code = .ref (codeOf fi.fd.code)) (k:fi.kwd = false) (n:fi.kwn = []) (t:fi.tb = none)
  (b:∀ us:List Value,us.length = fi.npos → bindArgs fi.fd ⟨us,[]⟩ = pure (fi.ps.zip us)):FIok W a fi :=
 fiOk_of S hm ha st hcode (fun _ => plainB n b) (fun h => absurd (k.symm.trans h) Bool.false_ne_true) fun _ e => noS (t.symm.trans e)
theorem bAt (S:Seen W.h₀ W.mg W.mb mN) (P:Addr) (hP:4 ≠ P):W.h₀.BuiltinsAt W.mg P:=by
 obtain ⟨o,ho,h1,h2,h3⟩:=modOk_ok S.mod
 exact ⟨4,o,S.qg ("__builtins__",.ref 4) (memAt 19 rfl),by decide,by decide,hP,ho,h1,h2,h3⟩
theorem ok46 (S:Seen W.h₀ W.mg W.mb mN) (ht:W.tbs = [tb66,tb73]):FIok W 46 fi46:=fiOk_p S (memAt 0 rfl) (by decide) st46 (by kernel_rfl) rfl rfl rfl fun us hl => bd46 hl
theorem ok53 (S:Seen W.h₀ W.mg W.mb mN) (ht:W.tbs = [tb66,tb73]):FIok W 53 fi53:=fiOk_p S (memAt 1 rfl) (by decide) st53 (by kernel_rfl) rfl rfl rfl fun us hl => bd53 hl
theorem ok60 (S:Seen W.h₀ W.mg W.mb mN) (ht:W.tbs = [tb66,tb73]):FIok W 60 fi60:=fiOk_p S (memAt 2 rfl) (by decide) st60 (by kernel_rfl) rfl rfl rfl fun us hl => bd60 hl
theorem ok67 (S:Seen W.h₀ W.mg W.mb mN) (ht:W.tbs = [tb66,tb73]):FIok W 67 fi67:=fiOk_of S (memAt 3 rfl) (by decide) st67 (by kernel_rfl) (fun _ => plainB rfl fun us hl => bd67 hl) (fun h => nomatch (show false = true from h)) (fun t e => by
  obtain rfl:tb66 = t:=Option.some.inj e
  exact ⟨ht ▸ memAt 0 rfl,by kernel_rfl,bAt S _ (by decide)⟩)
theorem ok74 (S:Seen W.h₀ W.mg W.mb mN) (ht:W.tbs = [tb66,tb73]):FIok W 74 fi74:=fiOk_of S (memAt 4 rfl) (by decide) st74 (by kernel_rfl) (fun _ => plainB rfl fun us hl => bd74 hl) (fun h => nomatch (show false = true from h)) (fun t e => by
  obtain rfl:tb73 = t:=Option.some.inj e
  exact ⟨ht ▸ memAt 1 rfl,by kernel_rfl,bAt S _ (by decide)⟩)
theorem ok81 (S:Seen W.h₀ W.mg W.mb mN) (ht:W.tbs = [tb66,tb73]):FIok W 81 fi81:=fiOk_p S (memAt 5 rfl) (by decide) st81 (by kernel_rfl) rfl rfl rfl fun us hl => bd81 hl
theorem ok88 (S:Seen W.h₀ W.mg W.mb mN) (ht:W.tbs = [tb66,tb73]):FIok W 88 fi88:=fiOk_p S (memAt 6 rfl) (by decide) st88 (by kernel_rfl) rfl rfl rfl fun us hl => bd88 hl
theorem ok105 (S:Seen W.h₀ W.mg W.mb mN) (ht:W.tbs = [tb66,tb73]):FIok W 105 fi105:=fiOk_p S (memAt 7 rfl) (by decide) st105 (by kernel_rfl) rfl rfl rfl fun us hl => bd105 hl
theorem ok126 (S:Seen W.h₀ W.mg W.mb mN) (ht:W.tbs = [tb66,tb73]):FIok W 126 fi126:=fiOk_p S (memAt 8 rfl) (by decide) st126 (by kernel_rfl) rfl rfl rfl fun us hl => bd126 hl
theorem ok192 (S:Seen W.h₀ W.mg W.mb mN) (ht:W.tbs = [tb66,tb73]):FIok W 192 fi192:=fiOk_of S (memAt 9 rfl) (by decide) st192 (by kernel_rfl) (fun _ s us ks hs hl hk => by
  obtain rfl:ks = []:=List.length_eq_zero_iff.mp hk
  rw [List.append_nil]
  exact bd192 (hs _ _ (S.obj (185,_) (memAt 24 rfl) (by decide))) hl) (fun h => nomatch (show false = true from h)) (fun t e => nomatch (show (none:Option Tb) = some t from e))
theorem ok199 (S:Seen W.h₀ W.mg W.mb mN) (ht:W.tbs = [tb66,tb73]):FIok W 199 fi199:=fiOk_of S (memAt 10 rfl) (by decide) st199 (by kernel_rfl) (fun _ s us ks _ hl hk => BindsTo.of_eq (bd199 hl hk)) (fun h => nomatch (show false = true from h)) (fun t e => nomatch (show (none:Option Tb) = some t from e))
theorem ok237 (S:Seen W.h₀ W.mg W.mb mN) (ht:W.tbs = [tb66,tb73]):FIok W 237 fi237:=fiOk_p S (memAt 11 rfl) (by decide) st237 (by kernel_rfl) rfl rfl rfl fun us hl => bd237 hl
theorem ok262 (S:Seen W.h₀ W.mg W.mb mN) (ht:W.tbs = [tb66,tb73]):FIok W 262 fi262:=fiOk_p S (memAt 12 rfl) (by decide) st262 (by kernel_rfl) rfl rfl rfl fun us hl => bd262 hl
theorem ok295 (S:Seen W.h₀ W.mg W.mb mN) (ht:W.tbs = [tb66,tb73]):FIok W 295 fi295:=fiOk_of S (memAt 13 rfl) (by decide) st295 (by kernel_rfl) (fun h => nomatch (show true = false from h)) (fun _ => ⟨by kernel_rfl,fun us hl => bd295 hl⟩) (fun t e => nomatch (show (none:Option Tb) = some t from e))
theorem ok309 (S:Seen W.h₀ W.mg W.mb mN) (ht:W.tbs = [tb66,tb73]):FIok W 309 fi309:=fiOk_p S (memAt 14 rfl) (by decide) st309 (by kernel_rfl) rfl rfl rfl fun us hl => bd309 hl
theorem ok316 (S:Seen W.h₀ W.mg W.mb mN) (ht:W.tbs = [tb66,tb73]):FIok W 316 fi316:=fiOk_p S (memAt 15 rfl) (by decide) st316 (by kernel_rfl) rfl rfl rfl fun us hl => bd316 hl
theorem ok323 (S:Seen W.h₀ W.mg W.mb mN) (ht:W.tbs = [tb66,tb73]):FIok W 323 fi323:=fiOk_p S (memAt 16 rfl) (by decide) st323 (by kernel_rfl) rfl rfl rfl fun us hl => bd323 hl
theorem ok330 (S:Seen W.h₀ W.mg W.mb mN) (ht:W.tbs = [tb66,tb73]):FIok W 330 fi330:=fiOk_p S (memAt 17 rfl) (by decide) st330 (by kernel_rfl) rfl rfl rfl fun us hl => bd330 hl
theorem ok337 (S:Seen W.h₀ W.mg W.mb mN) (ht:W.tbs = [tb66,tb73]):FIok W 337 fi337:=fiOk_p S (memAt 18 rfl) (by decide) st337 (by kernel_rfl) rfl rfl rfl fun us hl => bd337 hl
theorem ok342 (S:Seen W.h₀ W.mg W.mb mN) (ht:W.tbs = [tb66,tb73]):FIok W 342 fi342:=fiOk_p S (memAt 19 rfl) (by decide) st342 (by kernel_rfl) rfl rfl rfl fun us hl => bd342 hl
theorem ok347 (S:Seen W.h₀ W.mg W.mb mN) (ht:W.tbs = [tb66,tb73]):FIok W 347 fi347:=fiOk_p S (memAt 20 rfl) (by decide) st347 (by kernel_rfl) rfl rfl rfl fun us hl => bd347 hl
theorem fns_ok (S:Seen W.h₀ W.mg W.mb mN) (ht:W.tbs = [tb66,tb73]):∀ p ∈ fns,FIok W p.1 p.2:=by
 exact List.forall_mem_cons.mpr ⟨ok46 S ht,List.forall_mem_cons.mpr ⟨ok53 S ht,List.forall_mem_cons.mpr ⟨ok60 S ht,List.forall_mem_cons.mpr ⟨ok67 S ht,List.forall_mem_cons.mpr ⟨ok74 S ht,List.forall_mem_cons.mpr ⟨ok81 S ht,List.forall_mem_cons.mpr ⟨ok88 S ht,List.forall_mem_cons.mpr ⟨ok105 S ht,List.forall_mem_cons.mpr ⟨ok126 S ht,List.forall_mem_cons.mpr ⟨ok192 S ht,List.forall_mem_cons.mpr ⟨ok199 S ht,List.forall_mem_cons.mpr ⟨ok237 S ht,List.forall_mem_cons.mpr ⟨ok262 S ht,List.forall_mem_cons.mpr ⟨ok295 S ht,List.forall_mem_cons.mpr ⟨ok309 S ht,List.forall_mem_cons.mpr ⟨ok316 S ht,List.forall_mem_cons.mpr ⟨ok323 S ht,List.forall_mem_cons.mpr ⟨ok330 S ht,List.forall_mem_cons.mpr ⟨ok337 S ht,List.forall_mem_cons.mpr ⟨ok342 S ht,List.forall_mem_cons.mpr ⟨ok347 S ht,fun _ h => nomatch h⟩⟩⟩⟩⟩⟩⟩⟩⟩⟩⟩⟩⟩⟩⟩⟩⟩⟩⟩⟩⟩
end
section
set_option backward.match.sparseCases false
variable {W:Wd} {mN:Addr → Str → Option Value}
theorem memL {α β:Type} [BEq α] [LawfulBEq α] {a:α} {b:β} {l:List (α × β)}:l.lookup a = some b → (a,b) ∈ l:=by
 induction l with
 | nil => exact fun h => nomatch h
 | cons p r ih =>
  obtain ⟨x,y⟩:=p
  rw [List.lookup_cons]
  cases e:a == x with
  | true => exact fun h => by rw [eq_of_beq e,← Option.some.inj h]; exact List.mem_cons_self ..
  | false => exact fun h => List.mem_cons_of_mem _ (ih h)
theorem objAt (S:Seen W.h₀ W.mg W.mb mN) {p:Addr × Obj} (i:Nat) (h:objs[i]? = some p) (n:p.1 ∉ hid3):W.h₀.get? p.1 = some p.2:=S.obj p (memAt i h) n
theorem cls150 (S:Seen W.h₀ W.mg W.mb mN):ClsOk W 150 149 (mN 149) :=
 ⟨⟨⟨_,_,_,_,_,_,_,_,_,_,_,_,objAt S (p:=(150,clsObj "Whitespace" 416 424 150 149)) 21 rfl (by decide)⟩,S.n1⟩,S.qn _ (memAt 0 rfl),S.qn _ (memAt 1 rfl),S.qn _ (memAt 2 rfl)⟩
theorem cls298 (S:Seen W.h₀ W.mg W.mb mN):ClsOk W 298 297 (mN 297) :=
 ⟨⟨⟨_,_,_,_,_,_,_,_,_,_,_,_,objAt S (p:=(298,clsObj "Headers" 614 622 298 297)) 22 rfl (by decide)⟩,S.n2⟩,S.qn _ (memAt 12 rfl),S.qn _ (memAt 13 rfl),S.qn _ (memAt 14 rfl)⟩
theorem obj_of {a:Addr} {fi:FI} (S:Seen W.h₀ W.mg W.mb mN) (hm:(a,fi) ∈ fns) (ha:a ∉ hid3):W.h₀.get? a = some (fnObj fi):=S.obj (a,fnObj fi) (List.mem_append_left _ (List.mem_map.mpr ⟨(a,fi),hm,rfl⟩)) ha
noncomputable def okF:Except String (Bool × Sre.Seen) → Bool
 | .ok p => !p.1
 | .error _ => false
theorem okF_ok {x:Except String (Bool × Sre.Seen)}:okF x = true → ∃ seen',x = .ok (false,seen'):=by
 cases x with
 | ok p => exact fun h => ⟨p.2,congrArg (fun b => Except.ok (b,p.2)) (not1 h)⟩
 | error => exact fun h => nomatch h
theorem clean_all {code:Array Nat} (h:∀ seen,((List.range 95).all fun i => okF (Sre.inSet code (32 + i) code.size 5 true seen)) = true):∀ ch,32 ≤ ch → ch < 127 → ∀ seen,∃ seen',Sre.inSet code ch code.size 5 true seen = .ok (false,seen'):=fun ch h1 h2 seen => by
 obtain ⟨d,rfl⟩:=Nat.exists_eq_add_of_le h1
 exact okF_ok (List.all_eq_true.mp (h seen) d (List.mem_range.mpr (Nat.lt_of_add_lt_add_left (show 32 + d < 32 + 95 from h2))))
theorem clean_name:∀ ch,32 ≤ ch → ch < 127 → ∀ seen,∃ seen',Sre.inSet nameCode.toArray ch nameCode.toArray.size 5 true seen = .ok (false,seen'):=clean_all fun seen => by kernel_rfl
theorem clean_value:∀ ch,32 ≤ ch → ch < 127 → ∀ seen,∃ seen',Sre.inSet valueCode.toArray ch valueCode.toArray.size 5 true seen = .ok (false,seen'):=clean_all fun seen => by kernel_rfl
theorem raw_list (l:List Nat):((l.map fun (n:Nat) => Value.int (n:Int) 0).map Builtin.Re.reRawOf).map Int.toNat = l:=by
 induction l with
 | nil => rfl
 | cons n r ih => exact congrArg (n :: ·) ih
theorem raw_arr (l:List Nat):((l.map fun (n:Nat) => Value.int (n:Int) 0).toArray.map Builtin.Re.reRawOf).map Int.toNat = l.toArray:=by rw [List.map_toArray,List.map_toArray,raw_list]
theorem pat_of {p T:Addr} {x:Str} {t1 t2:Nat} {l:List Nat} (h1:W.h₀.get? p = some (patObj x t1 t2 T)) (h2:W.h₀.get? T = some (codeTup l)) (hs:SetCode l.toArray) (hc:∀ ch,32 ≤ ch → ch < 127 → ∀ seen,∃ seen',Sre.inSet l.toArray ch l.toArray.size 5 true seen = .ok (false,seen')):PatOk W p l.toArray :=
 ⟨⟨_,_,T,_,_,_,h1,rfl,rfl,rfl,rfl,rfl,h2,rfl,raw_arr l⟩,hs,hc⟩
theorem noAttr {x:Str} (h:fastLookup "object" x = some none):typeLookup (.type "object") x = pure none:=by
 rw [typeLookup_type,builtinLookup_eq_fast,h]
noncomputable def flagRows:List (Int × Nat × Str):=[(1,291,"OPTIMIZED"),(2,293,"NEWLOCALS"),(4,295,"VARARGS"),(8,297,"VARKEYWORDS"),(16,299,"NESTED"),(32,301,"GENERATOR"),(64,303,"NOFREE"),(128,305,"COROUTINE"),(256,307,"ITERABLE_COROUTINE"),(512,309,"ASYNC_GENERATOR")]
theorem find_rows (k:Int) (l:List (Int × Nat × Str)):match (l.map fun p => (p.1,p.2.2)).lookup k with
  | some x => ∃ t,((l.map fun p => dEnt p.1 p.2.1 p.2.2).find? fun e => Value.isInt k e.key).map (·.val) = some (.str x t)
  | none => ((l.map fun p => dEnt p.1 p.2.1 p.2.2).find? fun e => Value.isInt k e.key).map (·.val) = none:=by
 induction l with
 | nil => rfl
 | cons p r ih =>
  rw [List.map_cons,List.map_cons,List.lookup_cons,List.find?_cons]
  by_cases h:k = p.1
  ·rw [beq_iff_eq.mpr h,show Value.isInt k (dEnt p.1 p.2.1 p.2.2).key = true from beq_iff_eq.mpr h.symm]
   exact ⟨p.2.1 + 1,rfl⟩
  ·rw [beq_eq_false_iff_ne.mpr h,show Value.isInt k (dEnt p.1 p.2.1 p.2.2).key = false from beq_eq_false_iff_ne.mpr fun e => h e.symm]
   exact ih
theorem dmap_ok:∀ k,match flagNames.lookup k with | some x => ∃ t,findBy Value.isInt dictEs.toArray k = some (.str x t) | none => findBy Value.isInt dictEs.toArray k = none:=by
 intro k
 have:=find_rows k flagRows
 have e:∀ k,findBy Value.isInt dictEs.toArray k = ((flagRows.map fun p => dEnt p.1 p.2.1 p.2.2).find? fun e => Value.isInt k e.key).map (·.val):=fun k => by
  unfold findBy
  rw [List.find?_toArray]
  rfl
 simp only [e]
 exact this
theorem flagHash:∀ p ∈ flagRows,p.1 = hashInt p.1:=by decide +kernel
theorem dict_ok (S:Seen W.h₀ W.mg W.mb mN):DictOk W 39 (fun k => flagNames.lookup k) ∧ ∃ o,W.h₀.get? 39 = some o ∧ o.cls = .type "dict" ∧ o.dict = none:=by
 have ho:W.h₀.get? 39 = some dictObj:=objAt S (p:=(39,dictObj)) 23 rfl (by decide)
 refine ⟨⟨by decide,fun k => findBy Value.isInt dictEs.toArray k,⟨dictObj,dictEs.toArray,10,ho,⟨rfl,rfl,rfl⟩,rfl,fun e he => ?_,fun k => rfl⟩,dmap_ok⟩,dictObj,ho,rfl,rfl⟩
 have he':e ∈ flagRows.map fun p => dEnt p.1 p.2.1 p.2.2:=List.mem_toArray.mp he
 obtain ⟨p,hp,rfl⟩:=List.mem_map.mp he'
 exact ⟨p.1,by show Value.isInt p.1 (.int p.1 p.2.1) = true; simp [Value.isInt],flagHash p hp⟩
noncomputable def isCI:AV → Bool
 | .cst _ => true
 | .int _ => true
 | _ => false
theorem isCI_ok (g:GP) {a:AV}:isCI a = true → TV g a (valOf a):=by
 cases a with
 | cst v => exact fun _ => .cst _
 | int i => exact fun _ => .int _ _
 | _ => exact fun h => nomatch h
theorem avOk (p:Str × AV) (hp:p ∈ globs ++ blts) (g:GP):TV g p.2 (valOf p.2):=isCI_ok g (List.all_eq_true.mp (show ((globs ++ blts).all fun p => isCI p.2) = true by kernel_rfl) p hp)
theorem tabL {α β:Type} [BEq α] [LawfulBEq α] {P:α → β → Prop} {l:List (α × β)} (h:∀ p ∈ l,P p.1 p.2) {a:α} {b:β} (e:l.lookup a = some b):P a b:=h _ (memL e)
theorem meth_ok (S:Seen W.h₀ W.mg W.mb mN):∀ p ∈ meths,MethOk W p.1.1 p.1.2 p.2 :=
 List.forall_mem_cons.mpr ⟨⟨⟨_,_,cls298 S,S.qn _ (memAt 18 rfl)⟩,⟨_,_,obj_of (fi:=fi237) S (memAt 11 rfl) (by decide),rfl,rfl⟩,⟨_,noAttr (by kernel_rfl)⟩⟩,
 List.forall_mem_cons.mpr ⟨⟨⟨_,_,cls298 S,S.qn _ (memAt 20 rfl)⟩,⟨_,_,obj_of (fi:=fi295) S (memAt 13 rfl) (by decide),rfl,rfl⟩,⟨_,noAttr (by kernel_rfl)⟩⟩,
 List.forall_mem_cons.mpr ⟨⟨⟨_,_,cls298 S,S.qn _ (memAt 19 rfl)⟩,⟨_,_,obj_of (fi:=fi262) S (memAt 12 rfl) (by decide),rfl,rfl⟩,⟨_,noAttr (by kernel_rfl)⟩⟩,
 List.forall_mem_cons.mpr ⟨⟨⟨_,_,cls298 S,S.qn _ (memAt 17 rfl)⟩,⟨_,_,obj_of (fi:=fi199) S (memAt 10 rfl) (by decide),rfl,rfl⟩,⟨_,noAttr (by kernel_rfl)⟩⟩,
 List.forall_mem_cons.mpr ⟨⟨⟨_,_,cls150 S,S.qn _ (memAt 9 rfl)⟩,⟨_,_,obj_of (fi:=fi126) S (memAt 8 rfl) (by decide),rfl,rfl⟩,⟨_,noAttr (by kernel_rfl)⟩⟩,fun _ h => nomatch h⟩⟩⟩⟩⟩
noncomputable def InitOk (W:Wd) (C fI:Addr):Prop:=∃ N mN,ClsOk W C N mN ∧ mN "__init__" = some (.ref fI) ∧ ∃ o,W.h₀.get? fI = some o ∧ o.cls = .type "function"
theorem init_ok (S:Seen W.h₀ W.mg W.mb mN):∀ p ∈ ([(150,105),(298,192)]:List (Addr × Addr)),InitOk W p.1 p.2 :=
 List.forall_mem_cons.mpr ⟨⟨_,_,cls150 S,S.qn _ (memAt 8 rfl),_,obj_of (fi:=fi105) S (memAt 7 rfl) (by decide),rfl⟩,
 List.forall_mem_cons.mpr ⟨⟨_,_,cls298 S,S.qn _ (memAt 16 rfl),_,obj_of (fi:=fi192) S (memAt 9 rfl) (by decide),rfl⟩,fun _ h => nomatch h⟩⟩
noncomputable def PlainOk (W:Wd) (C:Addr) (name:Str):Prop:=∃ N mN,ClsOk W C N mN ∧ mN name = none ∧ typeLookup (.type "object") name = pure none
theorem plain_ok (S:Seen W.h₀ W.mg W.mb mN):∀ p ∈ plains,PlainOk W p.1 p.2 :=
 List.forall_mem_cons.mpr ⟨⟨_,_,cls150 S,S.qn _ (memAt 3 rfl),noAttr (by kernel_rfl)⟩,
 List.forall_mem_cons.mpr ⟨⟨_,_,cls150 S,S.qn _ (memAt 4 rfl),noAttr (by kernel_rfl)⟩,
 List.forall_mem_cons.mpr ⟨⟨_,_,cls150 S,S.qn _ (memAt 5 rfl),noAttr (by kernel_rfl)⟩,
 List.forall_mem_cons.mpr ⟨⟨_,_,cls150 S,S.qn _ (memAt 6 rfl),noAttr (by kernel_rfl)⟩,
 List.forall_mem_cons.mpr ⟨⟨_,_,cls150 S,S.qn _ (memAt 7 rfl),noAttr (by kernel_rfl)⟩,
 List.forall_mem_cons.mpr ⟨⟨_,_,cls298 S,S.qn _ (memAt 15 rfl),noAttr (by kernel_rfl)⟩,fun _ h => nomatch h⟩⟩⟩⟩⟩⟩
noncomputable def CattrOk (W:Wd) (C:Addr) (name:Str) (av:AV):Prop:=∃ v,ClsAttr W C name v ∧ ∀ g,TV g av v
theorem ca_ok (S:Seen W.h₀ W.mg W.mb mN):∀ p ∈ ([("S",.str " "),("T",.str "\t")]:List (Str × AV)),CattrOk W 150 p.1 p.2 :=
 have hc:mN cStatics "thirdparty.any" = none:=S.qn _ (memAt 21 rfl)
 List.forall_mem_cons.mpr ⟨⟨_,cattr_of (cls150 S).cls (S.qn _ (memAt 10 rfl)) S.n3 hc (by kernel_rfl) (noAttr (by kernel_rfl)) (by kernel_rfl),fun g => .str _ _⟩,
 List.forall_mem_cons.mpr ⟨⟨_,cattr_of (cls150 S).cls (S.qn _ (memAt 11 rfl)) S.n3 hc (by kernel_rfl) (noAttr (by kernel_rfl)) (by kernel_rfl),fun g => .str _ _⟩,fun _ h => nomatch h⟩⟩
theorem pats_ok (S:Seen W.h₀ W.mg W.mb mN):∀ p ∈ ([164,169]:List Addr),∃ code,PatOk W p code :=
 List.forall_mem_cons.mpr ⟨⟨_,pat_of (objAt S (p:=(164,patObj "[\\x00-\\x1F\\x7F]" 545 568 163)) 27 rfl (by decide)) (objAt S (p:=(163,codeTup nameCode)) 25 rfl (by decide)) ⟨rfl,rfl,rfl⟩ clean_name⟩,
 List.forall_mem_cons.mpr ⟨⟨_,pat_of (objAt S (p:=(169,patObj "[\\x00-\\x08\\x0A-\\x1F\\x7F]" 571 602 168)) 28 rfl (by decide)) (objAt S (p:=(168,codeTup valueCode)) 26 rfl (by decide)) ⟨rfl,rfl,rfl⟩ clean_value⟩,fun _ h => nomatch h⟩⟩
theorem name_ok (S:Seen W.h₀ W.mg W.mb mN) (p:Str × AV) (hm:p ∈ globs ++ blts):W.mg p.1 = some (valOf p.2) ∨ (W.mg p.1 = none ∧ W.mb p.1 = some (valOf p.2)) :=
 (List.mem_append.mp hm).elim (fun q => .inl (S.qg (p.1,valOf p.2) (List.mem_append_left _ (List.mem_map.mpr ⟨_,q,rfl⟩)))) fun q => .inr ⟨S.qb1 (p.1,valOf p.2) (List.mem_map.mpr ⟨_,q,rfl⟩),S.qb2 (p.1,valOf p.2) (List.mem_map.mpr ⟨_,q,rfl⟩)⟩
theorem glOk (S:Seen W.h₀ W.mg W.mb mN) (ht:W.tbs = [tb66,tb73]):GlOk W GP0 :=
 ⟨by unfold Wd.tP; rw [ht]; decide,Nat.lt_trans (by decide) (Heap.lt_size (objAt S (p:=(150,clsObj "Whitespace" 416 424 150 149)) 21 rfl (by decide))),
  fun x av h => have hm:=memL (show (globs ++ blts).lookup x = some av from h); ⟨valOf av,avOk _ hm,name_ok S _ hm⟩,
  fun a fi h => tabL (P:=FIok W) (fns_ok S ht) h,fun C name f h => meth_ok S _ (memL (show meths.lookup (C,name) = some f from h)),
  fun C fI h => tabL (P:=InitOk W) (init_ok S) h,fun C name h => plain_ok S (C,name) (List.contains_iff_mem.mp h),
  fun C name av h => have h:=ifT (show (if C = 150 then ([("S",.str " "),("T",.str "\t")]:List (Str × AV)).lookup name else none) = some av from h); (tabL (P:=CattrOk W 150) (ca_ok S) h.2).elim fun v q => ⟨v,h.1 ▸ q.1,q.2⟩,
  pats_ok S,(dict_ok S).1,(dict_ok S).2⟩
end
noncomputable def PlainLaw:Prop:=∀ ns:List Int,ns.length ≤ 63 → (PyData.list (ns.map PyData.int)).layable0 = true → ∃ ob',callI (ev GP0 300) fi347 [.lst (ns.map .int)] [] = some (.bool true,ob')
noncomputable def c0:Cx:={ env:={ scope:={ kind:=.function,names:=[],isGenerator:=false,isCoroutine:=false },locals:=6,globals:=mainGlobals,cells:=[],qual:=Str.empty,func:=none,code:=.none,frame:=none,builtins:=builtinsNs },own:=[6],d:=601,isclo:=noC }
theorem okTop:OkA 601 callerA:=⟨rfl,by decide,by decide⟩
theorem ns_same {h:Heap} {a:Addr} {m m':Str → Option Value} (x:h.Ns a m) (y:h.Ns a m') (n:Str):m n = m' n:=by
 obtain ⟨o,es,ep,e,d,_,f⟩:=x
 obtain ⟨o',es',ep',e',d',_,f'⟩:=y
 rw [e] at e'
 cases e'
 rw [d] at d'
 cases d'
 rw [← f,← f']
theorem of_hide_ns {h:Heap} {l:List Addr} {a:Addr} {m:Str → Option Value} (x:(hideAll h l).Ns a m):h.Ns a m :=
 let ⟨o,es,ep,e,r⟩:=x; ⟨o,es,ep,of_hideAll _ e,r⟩
theorem relTop {W:Wd} {h:Heap} (hh:W.h₀ = hideAll h hid3) (ht:W.tbs = [tb66,tb73]) (n6:∃ m,h.Ns 6 m) (C1:CodeHd h 66 62) (C2:CodeHd h 73 69) (P1:h.get? 62 = some (tabObj #[])) (P2:h.get? 69 = some (tabObj #[])):Rel W c0 [] [] [] [] h:=by
 have hav:c0.av [] [] = [6]:=rfl
 have some6:(h.get? 6).isSome = true:=by obtain ⟨m,o,_,_,e,_⟩:=n6; rw [e]; rfl
 have tP:W.tP = [62,69]:=by unfold Wd.tP; rw [ht]; rfl
 refine ⟨⟨rfl,rfl,rfl,List.mem_singleton_self _,(fun x cc e => nomatch e),(fun x y cc e => nomatch e),.nil⟩,?_,by rw [hav]; simp,?_,rfl,fun i o e => by simp at e⟩
 ·rw [hav]
  refine ⟨fun b o e => of_hideAll _ (hh ▸ e),fun a ha => ?_,[],(fun a _ hm => nomatch hm),(fun a hm => nomatch hm),fun t hm => ?_⟩
  ·rw [List.mem_singleton.mp ha]
   exact ⟨by rw [hh]; exact hideAll_none _ (by decide),some6,by rw [tP]; decide⟩
  ·rw [ht] at hm
   have put:∀ {c P:Addr},CodeHd h c P → h.get? P = some (tabObj #[]) → c ∉ hid3 → (W.h₀.get? c).isSome = true ∧ ((h.IsCode c P #[] ∧ h.TableAt c P #[])):=fun {c P} C hP hc => by
    refine ⟨?_,C.code hP trivial,C.tab hP⟩
    obtain ⟨o,_,_,_,_,_,_,_,_,e,_⟩:=C
    rw [hh,hideAll_get _ e hc]; rfl
   simp only [List.mem_cons,List.not_mem_nil,or_false] at hm
   rcases hm with rfl | rfl
   ·obtain ⟨a,b⟩:=put C1 P1 (by decide)
    exact ⟨a,.inl b⟩
   ·obtain ⟨a,b⟩:=put C2 P2 (by decide)
    exact ⟨a,.inl b⟩
 ·obtain ⟨m,n6⟩:=n6
  exact ⟨(fun x cc e => nomatch e),m,n6,fun i x k av e => by simp [c0] at e⟩
theorem walk (P:PlainLaw):WalkX view loose (fun _ _ => True) obs (fun _ => seenAs) rw1.row.toRowW dLaw [] fun f vs => PySem.call f vs:=by
 intro w s₀ s₁ mg mb G Y fa o pm cd doc dV kV ho hd hcd hD hmg hg args vals as L hpre hlay hrd hwl hlo
 wrow_args hpre hlay hrd hwl hlo
 rename_i ns _ _ hL1 _ _ as1 as2 l us as3 hL ra w1 r0 hI _ hlen _
 obtain ⟨S,b6,C1,C2,P1,P2⟩:=seen_of Y L.keeps G.T.nolimit
 have htbo:∀ t ∈ [tb66,tb73],(hideAll s₁.heap hid3).get? t.P = none:=fun t ht => by
  simp only [List.mem_cons,List.not_mem_nil,or_false] at ht
  rcases ht with rfl | rfl <;> exact hideAll_none _ (by decide)
 let W:Wd:={ prog:=rw1.row.toRowW.prog,w:=w,h₀:=hideAll s₁.heap hid3,mg:=s₀.heap.nsMap mainGlobals,mb:=s₀.heap.nsMap builtinsNs,tbs:=[tb66,tb73],g:=S.g,b:=S.b,lim:=S.lim,tbo:=htbo }
 have H:GlOk W GP0:=glOk (W:=W) (mN:=fun a => s₀.heap.nsMap a) S rfl
 have n6:s₁.heap.Ns 6 (s₀.heap.nsMap 6):=(Heap.Ns.of_isNs b6).keeps L.keeps
 have R:Rel W c0 [] [] [] [] s₁.heap:=relTop rfl rfl ⟨_,n6⟩ C1 C2 P1 P2
 have efa:fa = 347:=by
  have e1:=ns_same G.T.g (of_hide_ns S.g) "law"
  have e2:s₀.heap.nsMap mainGlobals "law" = some (.ref 347):=S.qg ("law",.ref 347) (memAt 20 rfl)
  have e3:mg "law" = some (.ref fa):=hmg
  rw [e1,e2] at e3
  cases e3; rfl
 subst efa
 obtain ⟨ob',hp⟩:=P ns (by omega) hL1
 have F:=callI_ok (W:=W) (good H 300) (fns_ok (W:=W) S rfl (347,fi347) (memAt 20 rfl))
 have hlo:s₁.heap.get? l = some { cls:=.type "list",data:=.seq us.toArray }:=X.script_obj (as:=as1 ++ as2) L hL
 have hl6:l ≠ 6:=fun e => by
  have h1:=(X.script_at L).1
  have y1:objs.map (fun p => s₀.heap.get? p.1) = objs.map fun p => some p.2:=congrArg Prod.fst Y
  have h2:=Heap.lt_size (show s₀.heap.get? 150 = some _ from (List.map_inj_left.mp y1 (150,clsObj "Whitespace" 416 424 150 149) (memAt 21 rfl)))
  rw [← h1,e] at h2
  exact absurd h2 (by decide)
 have hlP:l ∉ W.tP:=fun hm => by
  have tP:W.tP = [62,69]:=rfl
  rw [tP] at hm
  simp only [List.mem_cons,List.not_mem_nil,or_false] at hm
  rcases hm with rfl | rfl
  ·(first | exact noO P1 hlo | exact noI P1 hlo | (rw [P1] at hlo; cases hlo))
  ·(first | exact noO P2 hlo | exact noI P2 hlo | (rw [P2] at hlo; cases hlo))
 have tv:TV (Gh W s₁.heap (c0.av [] [])) (.lst (ns.map .int)) (.ref l):=.lst (n:=0) ⟨hlo,by show l ∉ [6]; simpa using hl6,hlP⟩ (TVs.ints hI)
 refine wpAny_mono (F callerA c0 [] [] [] (fun av _ => av = .bool true) s₁ [] (fun v s' => v = .bool true ∧ ∃ h' tk as',s' = { s₁ with heap:=h',toks:=tk } ∧ Kp W [] s₁.heap h' ∧ ∃ ob' ,Rel W c0 [] [] ob' as' h') [.lst (ns.map .int)] [.ref l] okTop (runF_to hp rfl) R (.cons (VV.of tv) .nil) fun v h' tk av ob' as' hk R' hv kp ex => ?_) (fun v s' q => ?_) fun _ _ f => f.elim
 ·subst hk
  exact TV.boolE (show TV _ (.bool true) v from hv) ⟨rfl,h',tk,as',rfl,kp,ob',R'⟩
 ·obtain ⟨rfl,h',tk,as',rfl,kp,ob',R'⟩:=q
  have old:∀ b o,b ≠ 62 → b ≠ 69 → s₁.heap.get? b = some o → h'.get? b = some o:=fun b o n1 n2 e => kp.1 b o (fun q => nomatch q) (by
   have tP:W.tP = [62,69]:=rfl
   rw [tP]
   simp only [List.mem_cons,List.not_mem_nil,or_false,not_or]
   exact ⟨n1,n2⟩) e
  have tab:∀ t ∈ W.tbs,∃ ps,h'.get? t.P = some (tabObj ps):=fun t ht => by
   obtain ⟨pr,_,_,q⟩:=R'.base.inv
   obtain ⟨_,z⟩:=tbHd (q t ht)
   rcases z with z | ⟨_,_,z,_⟩
   ·exact ⟨_,z⟩
   ·exact ⟨_,z⟩
  refine ⟨.inl ⟨.bool true,.bool true,[],rfl,fun cls => rfl,.bool true,by kernel_rfl,fun _ => ⟨.nil,fun a ha => nomatch ha⟩⟩,⟨fun b o e => ?_,fun b o e => ?_⟩,rfl,.of_eq hg⟩
  ·by_cases n1:b = 62
   ·subst n1
    rw [P1] at e
    cases e
    obtain ⟨ps,hp⟩:=tab tb66 (memAt 0 rfl)
    exact .inr (.inl ⟨(C1.tab P1).isCodeTable,rfl,#[],ps,rfl,by rw [Array.empty_append]; exact hp⟩)
   ·by_cases n2:b = 69
    ·subst n2
     rw [P2] at e
     cases e
     obtain ⟨ps,hp⟩:=tab tb73 (memAt 1 rfl)
     exact .inr (.inl ⟨(C2.tab P2).isCodeTable,rfl,#[],ps,rfl,by rw [Array.empty_append]; exact hp⟩)
    ·exact .inl (old b o n1 n2 e)
  ·have:=kp.2 b (by rw [e]; rfl)
   exact Option.isSome_iff_exists.mp this
theorem law_of (P:PlainLaw):rw1.Holds:=law_holds (walk P)
section
variable {G:Gl} {n:Nat} {sc:Sc} {vs:VS} {ob:OB} {K:AV → OB → Prop}
theorem bindI {α β:Type} {x:Option α} {a:α} {f:α → Option β} {z:Option β} (e:x = some a) (h:f a = z):x.bind f = z:=by rw [e]; exact h
theorem mapI {α β:Type} {x:Option α} {a:α} {f:α → β} {z:Option β} (e:x = some a) (h:some (f a) = z):x.map f = z:=by rw [e]; exact h
theorem ifI {α:Type} {p:Prop} {_:Decidable p} {x y z:α} (h:p) (e:x = z):(if p then x else y) = z:=(if_pos h).trans e
theorem ifJ {α:Type} {p:Prop} {_:Decidable p} {x y z:α} (h:¬p) (e:y = z):(if p then x else y) = z:=(if_neg h).trans e
theorem nT {b:Bool} (h:b = false):¬ b = true:=fun q => Bool.false_ne_true (h.symm.trans q)
noncomputable abbrev KE:=AV → OB → Prop
noncomputable abbrev KBo:=Bool → OB → Prop
noncomputable abbrev KSt:=AF → VS → OB → Prop
inductive kTr (K:KE) (a:AV) (ob1:OB):Prop
 | mk (a':_) (ob2:_) (h1:tr ob1 a = some (a',ob2)) (k:K a' ob2):kTr K a ob1
noncomputable abbrev kTrN (K:KE):KE:=fun a ob1 => tr ob1 a = none ∧ K a ob1
inductive kOp (op:Operator) (K:KE) (a:AV) (b:AV) (ob2:OB):Prop
 | mk (z:_) (h1:bopF op a b = some z) (k:K z ob2):kOp op K a b ob2
noncomputable abbrev kE2 (G:Gl) (n:Nat) (sc:Sc) (vs:VS) (y:Expr) (K:AV → KE):KE:=fun a ob1 => runE (frz ((ev G n).e sc y)) vs ob1 (K a)
inductive kNeg (f:Int → Int) (K:KE) (a:AV) (ob1:OB):Prop
 | mk (i:_) (h1:a = .int i) (k:K (.int (f i)) ob1):kNeg f K a ob1
theorem evName_ld {x:Str} {i:Nat} (h:ldIx sc x = some i) (hd:(x == ("__debug__" : Str)) = false):evName G sc x vs ob = (getV vs i).map fun a => (a,ob):=by
 unfold evName
 rw [if_neg (nT hd),h]
theorem evName_gl {x:Str} (h:ldIx sc x = none) (hd:(x == ("__debug__" : Str)) = false):evName G sc x vs ob = (gName G sc x).map fun a => (a,ob):=by
 unfold evName
 rw [if_neg (nT hd),h]
theorem xName {x:Str} {p:Pos} {i:Nat} {a:AV} (h:ldIx sc x = some i) (hd:(x == ("__debug__" : Str)) = false) (hv:getV vs i = some a) (k:K a ob):runE ((ev G (n + 1)).e sc (.Name x p)) vs ob K :=
 ⟨a,ob,(evName_ld h hd).trans (mapI hv rfl),k⟩
theorem xGlob {x:Str} {p:Pos} {a:AV} (h:ldIx sc x = none) (hd:(x == ("__debug__" : Str)) = false) (hv:gName G sc x = some a) (k:K a ob):runE ((ev G (n + 1)).e sc (.Name x p)) vs ob K :=
 ⟨a,ob,(evName_gl h hd).trans (mapI hv rfl),k⟩
theorem xInt {i:Int} {kk:Nat} {p:Pos} (k:K (.int i) ob):runE ((ev G (n + 1)).e sc (.Constant (.int i) kk p)) vs ob K:=⟨_,_,rfl,k⟩
theorem xStr {i:Str} {kk:Nat} {p:Pos} (k:K (.str i) ob):runE ((ev G (n + 1)).e sc (.Constant (.str i) kk p)) vs ob K:=⟨_,_,rfl,k⟩
theorem xNone {kk:Nat} {p:Pos} (k:K .none ob):runE ((ev G (n + 1)).e sc (.Constant .none kk p)) vs ob K:=⟨_,_,rfl,k⟩
theorem xFrz {f:FE} (h:runE f vs ob (kTr K)):runE (frz f) vs ob K:=by
 obtain ⟨_,_,e1,a',ob2,e2,k⟩:=h
 exact ⟨a',ob2,bindI e1 e2,k⟩
theorem xFrzO {f:FE} (h:runE f vs ob (kTr K)):runE (frzO f) vs ob K:=by
 obtain ⟨_,_,e1,a',ob2,e2,k⟩:=h
 exact ⟨a',ob2,bindI e1 (by dsimp only; rw [e2]),k⟩
theorem xFrzN {f:FE} (h:runE f vs ob (kTrN K)):runE (frzO f) vs ob K:=by
 obtain ⟨a,ob1,e1,e2,k⟩:=h
 exact ⟨a,ob1,bindI e1 (by dsimp only; rw [e2]),k⟩
theorem xBin {l y:Expr} {op:Operator} {p:Pos} (h:runE (frz ((ev G n).e sc l)) vs ob (kE2 G n sc vs y (kOp op K))):runE ((ev G (n + 1)).e sc (.BinOp l op y p)) vs ob K:=by
 obtain ⟨_,_,e1,_,ob2,e2,z,e3,k⟩:=h
 exact ⟨z,ob2,bindI e1 (bindI e2 (mapI e3 rfl)),k⟩
theorem xNeg {x:Expr} {p:Pos} (h:runE ((ev G n).e sc x) vs ob (kNeg (fun i => -i) K)):runE ((ev G (n + 1)).e sc (.UnaryOp .USub x p)) vs ob K:=by
 obtain ⟨_,ob1,e1,i,e2,k⟩:=h
 exact ⟨_,ob1,bindI e1 (bindI (congrArg AV.i? e2) rfl),k⟩
theorem xInv {x:Expr} {p:Pos} (h:runE ((ev G n).e sc x) vs ob (kNeg Builtin.bitNot K)):runE ((ev G (n + 1)).e sc (.UnaryOp .Invert x p)) vs ob K:=by
 obtain ⟨_,ob1,e1,i,e2,k⟩:=h
 exact ⟨_,ob1,bindI e1 (bindI (congrArg AV.i? e2) rfl),k⟩
noncomputable def Br (b:Bool) (P Q:Prop):Prop:=(b = true ∧ P) ∨ (b = false ∧ Q)
theorem Br.t {P Q:Prop} (h:P):Br true P Q:=.inl ⟨rfl,h⟩
theorem Br.f {P Q:Prop} (h:Q):Br false P Q:=.inr ⟨rfl,h⟩
theorem Br.yes {b:Bool} {P Q:Prop} (e:b = true) (h:P):Br b P Q:=.inl ⟨e,h⟩
theorem Br.no {b:Bool} {P Q:Prop} (e:b = false) (h:Q):Br b P Q:=.inr ⟨e,h⟩
theorem Br.both {b:Bool} {P Q:Prop} (h1:b = true → P) (h2:b = false → Q):Br b P Q:=by
 cases b with
 | true => exact .t (h1 rfl)
 | false => exact .f (h2 rfl)
noncomputable abbrev kIfE (G:Gl) (n:Nat) (sc:Sc) (vs:VS) (b o:Expr) (K:KE):KBo:=fun c ob1 => Br c (runE ((ev G n).e sc b) vs ob1 K) (runE ((ev G n).e sc o) vs ob1 K)
theorem xIfE {t b o:Expr} {p:Pos} (h:runB ((ev G n).i sc t) vs ob (kIfE G n sc vs b o K)):runE ((ev G (n + 1)).e sc (.IfExp t b o p)) vs ob K:=by
 obtain ⟨c,ob1,e1,⟨e,a,ob2,e2,k⟩ | ⟨e,a,ob2,e2,k⟩⟩:=h
 ·exact ⟨a,ob2,bindI e1 (ifI e e2),k⟩
 ·exact ⟨a,ob2,bindI e1 (ifJ (nT e) e2),k⟩
inductive kCmpE (op:CmpOp) (K:KE) (a:AV) (b:AV) (ob2:OB):Prop
 | mk (z:_) (h1:copF op a b = some z) (k:K (.bool z) ob2):kCmpE op K a b ob2
theorem xCmpE {l y:Expr} {op:CmpOp} {p:Pos} (hm:behindInMarks op y = false) (h:runE (frz ((ev G n).e sc l)) vs ob (kE2 G n sc vs y (kCmpE op K))):runE ((ev G (n + 1)).e sc (.Compare l [op] [y] p)) vs ob K:=by
 obtain ⟨_,_,e1,_,ob2,e2,_,e3,k⟩:=h
 exact ⟨_,ob2,mapI (ifJ (nT hm) (bindI e1 (bindI e2 (mapI e3 rfl)))) rfl,k⟩
variable {KL:List AV → OB → Prop}
noncomputable abbrev kHd (f:Expr → FE) (es:List Expr) (vs:VS) (KL:List AV → OB → Prop):KE:=fun a ob1 => runL (evs f es) vs ob1 fun as ob2 => KL (a :: as) ob2
theorem xEvs0 {f:Expr → FE} (k:KL [] ob):runL (evs f []) vs ob KL:=⟨_,_,rfl,k⟩
theorem xEvs1 {f:Expr → FE} {e:Expr} {es:List Expr} (h:runE (f e) vs ob (kHd f es vs KL)):runL (evs f (e :: es)) vs ob KL:=by
 obtain ⟨_,_,e1,_,ob2,e2,k⟩:=h
 exact ⟨_,ob2,bindI e1 (bindI e2 rfl),k⟩
theorem gc_same {fl:AF}:gcN fl vs (ob.length - ob.length) ob = ob:=by rw [Nat.sub_self]; rfl
theorem gcE_same {f:FE} {z:AV} (e:f vs ob = some (z,ob)):gcE f vs ob = some (z,ob):=by
 unfold gcE
 rw [e,Option.map_some,gc_same]
noncomputable abbrev kTup (K:KE):List AV → OB → Prop:=fun as ob1 => (trees as = true ∧ as.length ≤ sizeLine) ∧ K (.tup as) ob1
theorem xTup {es:List Expr} {kk:Nat} {p:Pos} (hn:noStar es = true) (h:runL (evs (fun e => frz ((ev G n).e sc e)) es) vs ob (kTup K)):runE ((ev G (n + 1)).e sc (.Tuple es kk p)) vs ob K:=by
 obtain ⟨_,ob1,e1,e2,k⟩:=h
 exact ⟨_,ob1,ifI hn (bindI e1 (ifI e2 rfl)),k⟩
theorem eCall_c {x:Str} {args:List Expr} {v:Value} {ob1:OB} {avs:List AV} {z:Option (AV × OB)} (hg:gName G sc x = some (.cst v)) (hn:(noStar args && !args.isEmpty) = true) (h:evs (fun e => if plainMode G v then (ev G n).e sc e else frzO ((ev G n).e sc e)) args vs ob = some (avs,ob1)) (e:callV G (ev G n) v avs ob1 = z) :
  eCall G (ev G n) sc x args vs ob = z:=by
 unfold eCall
 rw [if_pos hn,hg]
 exact bindI h e
theorem evs_f {a:Bool} (h:a = false) {f g:Expr → FE}:(fun e => if a then f e else g e) = g:=by subst h; rfl
theorem evs_t {a:Bool} (h:a = true) {f g:Expr → FE}:(fun e => if a then f e else g e) = f:=by subst h; rfl
theorem callV_f {a:Addr} {fi:FI} {r:Ev} {avs:List AV} (hi:G.init a = none) (hf:G.fn a = some fi) (ht:trees avs = true):callV G r (.ref a) avs ob = callI r fi avs ob:=by
 show callR G r a avs ob = _
 unfold callR
 rw [hi]
 exact bindI hf (if_pos ht)
theorem plain_f {a:Addr} (hi:G.init a = none):plainMode G (.ref a) = false:=by show (G.init a).isSome = false; rw [hi]; rfl
inductive kCI (G:Gl) (n:Nat) (fi:FI) (ob:OB) (K:KE) (avs:List AV) (ob1:OB):Prop
 | mk (h1:trees avs = true) (h2:ob1 = ob) (z:_) (h3:callI (ev G n) fi avs ob = some (z,ob)) (k:K z ob):kCI G n fi ob K avs ob1
theorem xCallI {x:Str} {p pos:Pos} {args:List Expr} {a:Addr} {fi:FI} (hg:gName G sc x = some (.cst (.ref a))) (hi:G.init a = none) (hf:G.fn a = some fi) (hn:(noStar args && !args.isEmpty) = true)
  (h:runL (evs (fun e => frzO ((ev G n).e sc e)) args) vs ob (kCI G n fi ob K)):runE ((ev G (n + 1)).e sc (.Call (.Name x p) args [] pos)) vs ob K:=by
 obtain ⟨avs,ob1,e1,e2,rfl,z,e3,k⟩:=h
 exact ⟨z,ob1,gcE_same (eCall_c hg hn (by rw [evs_f (plain_f hi)]; exact e1) ((callV_f hi hf e2).trans e3)),k⟩
inductive kCB (id:String) (ob:OB) (K:KE) (avs:List AV) (ob1:OB):Prop
 | mk (h1:ob1 = ob) (z:_) (h2:bfn id avs ob = some (z,ob)) (k:K z ob):kCB id ob K avs ob1
theorem xCallB {x:Str} {p pos:Pos} {args:List Expr} {id:String} (hg:gName G sc x = some (.cst (.builtin id))) (hp:plainMode G (.builtin id) = false) (hn:(noStar args && !args.isEmpty) = true)
  (h:runL (evs (fun e => frzO ((ev G n).e sc e)) args) vs ob (kCB id ob K)):runE ((ev G (n + 1)).e sc (.Call (.Name x p) args [] pos)) vs ob K:=by
 obtain ⟨avs,ob1,e1,rfl,z,e3,k⟩:=h
 exact ⟨z,ob1,gcE_same (eCall_c hg hn (by rw [evs_f hp]; exact e1) e3),k⟩
theorem xCallL {x:Str} {p pos:Pos} {args:List Expr} {id:String} (hg:gName G sc x = some (.cst (.builtin id))) (hp:plainMode G (.builtin id) = true) (hn:(noStar args && !args.isEmpty) = true)
  (h:runL (evs (fun e => (ev G n).e sc e) args) vs ob (kCB id ob K)):runE ((ev G (n + 1)).e sc (.Call (.Name x p) args [] pos)) vs ob K:=by
 obtain ⟨avs,ob1,e1,rfl,z,e3,k⟩:=h
 exact ⟨z,ob1,gcE_same (eCall_c hg hn (by rw [evs_t hp]; exact e1) e3),k⟩
noncomputable def methOk (o:Expr) (args:List Expr) (kws:List Keyword) (apos pos:Pos):Bool:=!isBareCall o && noStar args && allNamed kws && decide (args.length + kws.length < 29) && (apos.endLine == pos.line)
theorem eMeth_b {o:Expr} {name:Str} {apos pos:Pos} {args:List Expr} (hc:methOk o args [] apos pos = true) (hu:G.user name = false):eMeth G (ev G n) sc o name apos args [] pos vs ob = eMethB G (ev G n) sc o name args vs ob:=ifI hc (ifJ (nT hu) (if_pos rfl))
theorem mutY {name:Str} (h:(name == ("append" : Str) || name == ("reverse" : Str)) = true) (f g:FE):(if (name == ("append" : Str) || name == ("reverse" : Str)) = true then f else g) = f:=if_pos h
theorem mutN {name:Str} (h:(name == ("append" : Str) || name == ("reverse" : Str)) = false) (f g:FE):(if (name == ("append" : Str) || name == ("reverse" : Str)) = true then f else g) = g:=if_neg (nT h)
theorem eMethB_n {o:Expr} {name:Str} {args:List Expr} {a:AV} {ob1 ob2:OB} {T id:String} {as:List AV} {z:Option (AV × OB)} (hm:(name == ("append" : Str) || name == ("reverse" : Str)) = false) (e1:frz ((ev G n).e sc o) vs ob = some (a,ob1)) (hT:tyOf G ob1 a = some T) (hid:mId T name = some id)
  (e2:evs (fun e => frz ((ev G n).e sc e)) args vs ob1 = some (as,ob2)) (e3:mfn G id (a :: as) ob2 = z):eMethB G (ev G n) sc o name args vs ob = z:=by
 unfold eMethB
 rw [mutN hm]
 exact bindI e1 (bindI hT (bindI hid (bindI e2 e3)))
theorem eMethB_y {o:Expr} {name:Str} {args:List Expr} {a:AV} {ob1 ob2:OB} {T id:String} {as:List AV} {z:Option (AV × OB)} (hm:(name == ("append" : Str) || name == ("reverse" : Str)) = true) (e1:(ev G n).e sc o vs ob = some (a,ob1)) (hT:tyOf G ob1 a = some T) (hid:mId T name = some id)
  (e2:evs (fun e => frz ((ev G n).e sc e)) args vs ob1 = some (as,ob2)) (e3:mfn G id (a :: as) ob2 = z):eMethB G (ev G n) sc o name args vs ob = z:=by
 unfold eMethB
 rw [mutY hm]
 exact bindI e1 (bindI hT (bindI hid (bindI e2 e3)))
inductive kBits (ob:OB) (K:KE) (a:AV) (ob1:OB):Prop
 | mk (i:_) (h1:a = .int i) (h2:ob1 = ob) (k:K (.int (Builtin.Int.intBits i)) ob):kBits ob K a ob1
theorem xBits {o:Expr} {apos pos:Pos} (hb:isBareCall o = false) (hl:(apos.endLine == pos.line) = true) (hu:G.user "bit_length" = false) (h:runE ((ev G n).e sc o) vs ob (kBits ob K)) :
  runE ((ev G (n + 1)).e sc (.Call (.Attribute o "bit_length" apos) [] [] pos)) vs ob K:=by
 obtain ⟨a,ob1,e1,i,rfl,rfl,k⟩:=h
 have hc:methOk o [] [] apos pos = true:=by unfold methOk; rw [hb,hl]; rfl
 exact ⟨_,ob1,gcE_same ((eMeth_b hc hu).trans (eMethB_n (T:="int") (id:="int.bit_length") (by decide +kernel) (bindI e1 rfl) rfl (by decide +kernel) rfl (by unfold mfn; simp; rfl))),k⟩
variable {KB:Bool → OB → Prop}
inductive kCmp (op:CmpOp) (K:KBo) (a:AV) (b:AV) (ob2:OB):Prop
 | mk (z:_) (h1:copF op a b = some z) (k:K z ob2):kCmp op K a b ob2
theorem iCmp1 {l y:Expr} {op:CmpOp} {p:Pos} (hq:((op == .Is || op == .IsNot) && isNoneConst y) = false) (hm:behindInMarks op y = false) (h:runE (frz ((ev G n).e sc l)) vs ob (kE2 G n sc vs y (kCmp op KB))):runB ((ev G (n + 1)).i sc (.Compare l [op] [y] p)) vs ob KB:=by
 obtain ⟨_,_,e1,_,ob2,e2,_,e3,k⟩:=h
 exact ⟨_,ob2,ifJ (nT hq) (ifJ (nT hm) (bindI e1 (bindI e2 (mapI e3 rfl)))),k⟩
noncomputable abbrev kNot (K:KBo):KBo:=fun b ob1 => K (!b) ob1
theorem iNot1 {x:Expr} {p:Pos} (h:runB ((ev G n).i sc x) vs ob (kNot KB)):runB ((ev G (n + 1)).i sc (.UnaryOp .Not x p)) vs ob KB:=by
 obtain ⟨_,ob1,e1,k⟩:=h
 exact ⟨_,ob1,show (if UnaryOp.Not = .Not then ((ev G n).i sc x vs ob).map (fun p => (!p.1,p.2)) else none) = _ from ifI rfl (mapI e1 rfl),k⟩
inductive kTru (K:KBo) (a:AV) (ob1:OB):Prop
 | mk (b:_) (h1:truF a = some b) (k:K b ob1):kTru K a ob1
theorem iVal1 {e:Expr} (hp:∀ vs ob,(ev G (n + 1)).i sc e vs ob = (frz ((ev G n).e sc e) vs ob).bind fun p => (truF p.1).map fun b => (b,p.2)) (h:runE (frz ((ev G n).e sc e)) vs ob (kTru KB)):runB ((ev G (n + 1)).i sc e) vs ob KB:=by
 obtain ⟨_,ob1,e1,b,e2,k⟩:=h
 exact ⟨b,ob1,(hp vs ob).trans (bindI e1 (mapI e2 rfl)),k⟩
variable {KS:AF → VS → OB → Prop}
noncomputable def seqK (f:Stmt → FS) (rest:List Stmt) (m:OB) (KS:AF → VS → OB → Prop):AF → VS → OB → Prop:=fun fl vs' ob' =>
 match fl with
 | .next => runS (ss f rest) vs' (gcN .next vs' (ob'.length - m.length) ob') KS
 | a => KS a vs' (gcN a vs' (ob'.length - m.length) ob')
theorem xss0 {f:Stmt → FS} (k:KS .next vs ob):runS (ss f []) vs ob KS:=⟨_,_,_,rfl,k⟩
theorem xss1 {f:Stmt → FS} {st:Stmt} {rest:List Stmt} (h:runS (f st) vs ob (seqK f rest ob KS)):runS (ss f (st :: rest)) vs ob KS:=by
 obtain ⟨fl,vs1,ob1,e1,k⟩:=h
 have e2:gcS (f st) vs ob = some (fl,vs1,gcN fl vs1 (ob1.length - ob.length) ob1):=by unfold gcS; rw [e1]; rfl
 cases fl with
 | next =>
  obtain ⟨a,vs2,ob2,e3,k2⟩:=k
  exact ⟨a,vs2,ob2,bindI e2 e3,k2⟩
 | brk => exact ⟨_,_,_,bindI e2 rfl,k⟩
 | cont => exact ⟨_,_,_,bindI e2 rfl,k⟩
 | ret a => exact ⟨_,_,_,bindI e2 rfl,k⟩
theorem rS {f:FS} {vs vs':VS} {ob ob':OB} {fl:AF} {KS:KSt} (e:f vs ob = some (fl,vs',ob')) (k:KS fl vs' ob'):runS f vs ob KS:=⟨_,_,_,e,k⟩
theorem seqN {f:Stmt → FS} {rest:List Stmt} {vs':VS} (h:runS (ss f rest) vs' ob KS):seqK f rest ob KS .next vs' ob:=by
 show runS (ss f rest) vs' (gcN .next vs' (ob.length - ob.length) ob) KS
 rw [gc_same]; exact h
theorem seqR {f:Stmt → FS} {rest:List Stmt} {vs':VS} {a:AV} (h:KS (.ret a) vs' ob):seqK f rest ob KS (.ret a) vs' ob:=by
 show KS (.ret a) vs' (gcN (.ret a) vs' (ob.length - ob.length) ob)
 rw [gc_same]; exact h
theorem seqNg {f:Stmt → FS} {rest:List Stmt} {vs':VS} {ob' ob'':OB} (e:gcN .next vs' (ob'.length - ob.length) ob' = ob'') (h:runS (ss f rest) vs' ob'' KS):seqK f rest ob KS .next vs' ob':=by
 show runS (ss f rest) vs' (gcN .next vs' (ob'.length - ob.length) ob') KS
 rw [e]; exact h
theorem seqRg {f:Stmt → FS} {rest:List Stmt} {vs':VS} {a:AV} {ob' ob'':OB} (e:gcN (.ret a) vs' (ob'.length - ob.length) ob' = ob'') (h:KS (.ret a) vs' ob''):seqK f rest ob KS (.ret a) vs' ob':=by
 show KS (.ret a) vs' (gcN (.ret a) vs' (ob'.length - ob.length) ob')
 rw [e]; exact h
noncomputable def plainRhs (e:Expr):Bool:=![8,9,10,24,2].contains e.ctorIdx && (match e with | .Subscript _ s _ => (sliceOf s).isNone | _ => true)
theorem sub_plain {v s:Expr} {p:Pos} (h:plainRhs (.Subscript v s p) = true):sliceOf s = none:=Option.isNone_iff_eq_none.mp (and2 h).2
theorem eMut_plain {r:Ev} {e:Expr} (h:plainRhs e = true):eMut G r sc e = r.e sc e:=by
 cases e with
 | Subscript v s p => unfold eMut; dsimp only; rw [sub_plain h]
 | ListComp => exact absurd h Bool.false_ne_true
 | SetComp => exact absurd h Bool.false_ne_true
 | DictComp => exact absurd h Bool.false_ne_true
 | List => exact absurd h Bool.false_ne_true
 | BinOp => exact absurd h Bool.false_ne_true
 | _ => rfl
theorem sRet_plain {r:Ev} {e:Expr} (h:plainRhs e = true):sRetF r sc e = r.e sc e:=by
 cases e with
 | Subscript v s p => unfold sRetF; dsimp only; rw [sub_plain h]
 | _ => rfl
noncomputable abbrev kAs (i:Nat) (vs:VS) (KS:KSt):KE:=fun a ob1 => KS .next (setV vs i a) ob1
theorem sAssign1 {x:Str} {px p:Pos} {e:Expr} {i:Nat} (h1:stIx sc x = some i) (hp:plainRhs e = true) (h:runE ((ev G n).e sc e) vs ob (kAs i vs KS)):runS ((ev G (n + 1)).s sc (.Assign [.Name x px] e p)) vs ob KS:=by
 obtain ⟨_,_,e1,k⟩:=h
 exact ⟨_,_,_,bindI h1 (bindI (by rw [eMut_plain hp]; exact e1) rfl),k⟩
inductive kAsB (op:Operator) (i:Nat) (vs:VS) (KS:KSt) (a:AV) (b:AV) (ob2:OB):Prop
 | mk (h1:mop op a b = none) (z:_) (h2:bopF op a b = some z) (k:KS .next (setV vs i z) ob2):kAsB op i vs KS a b ob2
theorem eBinM_n {l y:Expr} {op:Operator} {a b z:AV} {ob1 ob2:OB} (e1:frz ((ev G n).e sc l) vs ob = some (a,ob1)) (e2:frz ((ev G n).e sc y) vs ob1 = some (b,ob2)) (e3:mop op a b = none) (e4:bopF op a b = some z):eBinM (ev G n) sc l op y vs ob = some (z,ob2) :=
 bindI e1 (bindI e2 (by dsimp only; rw [e3]; exact mapI e4 rfl))
theorem sAssignB {x:Str} {px p bp:Pos} {l y:Expr} {op:Operator} {i:Nat} (h1:stIx sc x = some i) (h:runE (frz ((ev G n).e sc l)) vs ob (kE2 G n sc vs y (kAsB op i vs KS))):runS ((ev G (n + 1)).s sc (.Assign [.Name x px] (.BinOp l op y bp) p)) vs ob KS:=by
 obtain ⟨_,_,e1,_,_,e2,e3,_,e4,k⟩:=h
 exact ⟨_,_,_,bindI h1 (bindI (eBinM_n e1 e2 e3 e4) rfl),k⟩
inductive kTup2 (i j:Nat) (vs:VS) (KS:KSt) (a:AV) (ob1:OB):Prop
 | mk (u:_) (v:_) (h1:a = .tup [u,v]) (k:KS .next (setV (setV vs i u) j v) ob1):kTup2 i j vs KS a ob1
theorem sTup1 {x y:Str} {px py tp p:Pos} {kk:Nat} {e:Expr} {i j:Nat} (h1:stIx sc x = some i) (h2:stIx sc y = some j) (hne:(i ≠ j ∧ notConsts e = true)) (h:runE ((ev G n).e sc e) vs ob (kTup2 i j vs KS)) :
  runS ((ev G (n + 1)).s sc (.Assign [.Tuple [.Name x px,.Name y py] kk tp] e p)) vs ob KS:=by
 obtain ⟨a,ob1,e1,u,v,rfl,k⟩:=h
 exact ⟨_,_,_,bindI h1 (bindI h2 (ifI hne (bindI e1 rfl))),k⟩
inductive kAug (op:Operator) (a:AV) (i:Nat) (vs:VS) (KS:KSt) (b:AV) (ob1:OB):Prop
 | mk (z:_) (h1:iopF op a b = some z) (k:KS .next (setV vs i (.int z)) ob1):kAug op a i vs KS b ob1
theorem sAug1 {x:Str} {px p:Pos} {op:Operator} {e:Expr} {i:Nat} {a:AV} (h1:ldIx sc x = some i) (h2:stIx sc x = some i) (hv:getV vs i = some a) (ht:a.tree = true) (h:runE (frz ((ev G n).e sc e)) vs ob (kAug op a i vs KS)) :
  runS ((ev G (n + 1)).s sc (.AugAssign (.Name x px) op e p)) vs ob KS:=by
 obtain ⟨_,_,e1,_,e2,k⟩:=h
 exact ⟨_,_,_,bindI h1 (bindI h2 (ifI rfl (bindI hv (ifI ht (bindI e1 (mapI e2 rfl)))))),k⟩
noncomputable abbrev kRet (vs:VS) (KS:KSt):KE:=fun a ob1 => KS (.ret a) vs ob1
theorem sRet1 {e:Expr} {p:Pos} (hp:plainRhs e = true ∨ ∃ l op y q,e = .BinOp l op y q) (h:runE ((ev G n).e sc e) vs ob (kRet vs KS)):runS ((ev G (n + 1)).s sc (.Return (some e) p)) vs ob KS:=by
 obtain ⟨a,ob1,e1,k⟩:=h
 rcases hp with hp | ⟨l,op,y,q,rfl⟩
 ·exact ⟨_,_,_,mapI (by rw [sRet_plain hp]; exact e1) rfl,k⟩
 ·exact ⟨_,_,_,mapI e1 rfl,k⟩
theorem sRet0 {p:Pos} (k:KS (.ret .none) vs ob):runS ((ev G (n + 1)).s sc (.Return none p)) vs ob KS:=⟨_,_,_,rfl,k⟩
noncomputable abbrev kIf (G:Gl) (n:Nat) (sc:Sc) (vs:VS) (body orelse:List Stmt) (KS:KSt):KBo:=fun b ob1 => Br b (runS (ss ((ev G n).s sc) body) vs ob1 KS) (runS (ss ((ev G n).s sc) orelse) vs ob1 KS)
theorem sIf1 {t:Expr} {body orelse:List Stmt} {p:Pos} (h:runB ((ev G n).i sc t) vs ob (kIf G n sc vs body orelse KS)):runS ((ev G (n + 1)).s sc (.If t body orelse p)) vs ob KS:=by
 obtain ⟨c,ob1,e1,⟨e,a,vs2,ob2,e2,k⟩ | ⟨e,a,vs2,ob2,e2,k⟩⟩:=h
 ·exact ⟨a,vs2,ob2,bindI e1 (by dsimp only; rw [e]; exact e2),k⟩
 ·exact ⟨a,vs2,ob2,bindI e1 (by dsimp only; rw [e]; exact e2),k⟩
noncomputable abbrev kTold (z:AV):KSt:=fun fl _ ob1 => ∃ a ob2,fl = .ret a ∧ tr ob1 a = some (z,ob2)
theorem callI_of {r:Ev} {fi:FI} {avs:List AV} {z:AV} (hc:avs.length = fi.npos ∧ fi.kwn = [] ∧ fi.kwd = false ∧ trees avs = true) (h:runS (ss (r.s (fsc fi)) fi.body) (setVs (vs₀ fi.fd) fi.is avs) [] (kTold z)):callI r fi avs ob = some (z,ob):=by
 obtain ⟨fl,vs1,ob1,e1,a,ob2,rfl,e2⟩:=h
 exact ifI hc (bindI e1 (mapI e2 rfl))
end
noncomputable abbrev bts (x:Int):Nat:=Builtin.Int.intBits x
theorem bts_def (x:Int):bts x = if x = 0 then 0 else x.natAbs.log2 + 1:=by
 unfold bts Builtin.Int.intBits
 by_cases h:x = 0 <;> simp [h]
theorem bts_le {x:Int} {k:Nat} (h:x.natAbs < 2 ^ k):bts x ≤ k:=by
 rw [bts_def]
 by_cases hx:x = 0
 ·rw [if_pos hx]; exact Nat.zero_le _
 ·rw [if_neg hx]; exact (Nat.log2_lt (fun q => hx (Int.natAbs_eq_zero.mp q))).mpr h
theorem lt_bts (x:Int):x.natAbs < 2 ^ bts x:=by
 rw [bts_def]
 split
 ·rename_i h; rw [h]; decide
 ·exact Nat.lt_log2_self
theorem le_bts {x:Int} (h:x ≠ 0):2 ^ (bts x - 1) ≤ x.natAbs:=by
 rw [bts_def,if_neg h]
 exact Nat.log2_self_le fun q => h (Int.natAbs_eq_zero.mp q)
theorem bts_pos {x:Int} (h:x ≠ 0):0 < bts x:=by rw [bts_def,if_neg h]; exact Nat.succ_pos _
theorem pow_cast (k:Nat):((2 ^ k:Nat):Int) = (2:Int) ^ k:=by simp
theorem bts_le' {x:Int} {k:Nat} (h0:0 ≤ x) (h:x < 2 ^ k):bts x ≤ k:=bts_le (Int.ofNat_lt.mp (by rw [Int.natAbs_of_nonneg h0,pow_cast]; exact h))
theorem lt_bts' {x:Int} {k:Nat} (h:bts x ≤ k):x < 2 ^ k:=Int.lt_of_le_of_lt Int.le_natAbs (by rw [← pow_cast]; exact Int.ofNat_lt.mpr (Nat.lt_of_lt_of_le (lt_bts x) (Nat.pow_le_pow_right (by decide) h)))
theorem pow_pos' (k:Nat):(0:Int) < 2 ^ k:=Int.pow_pos (by decide)
theorem pow_le' {j k:Nat} (h:j ≤ k):(2:Int) ^ j ≤ 2 ^ k:=by
 rw [← pow_cast,← pow_cast]
 exact Int.ofNat_le.mpr (Nat.pow_le_pow_right (by decide) h)
theorem bts_mul (x y:Int):bts (x * y) ≤ bts x + bts y:=by
 apply bts_le
 rw [Int.natAbs_mul,Nat.pow_add]
 exact Nat.mul_lt_mul'' (lt_bts x) (lt_bts y)
theorem bts_mono {x y:Int} (h:x.natAbs ≤ y.natAbs):bts x ≤ bts y:=bts_le (Nat.lt_of_le_of_lt h (lt_bts y))
theorem bts_neg (x:Int):bts (-x) = bts x:=by rw [bts_def,bts_def,Int.natAbs_neg]; simp
theorem band_mask {x:Int} (hx:0 ≤ x) (h:Nat):Builtin.bitAnd x (2 ^ h - 1) = x % 2 ^ h:=by
 obtain ⟨a,rfl⟩:=Int.eq_ofNat_of_zero_le hx
 have hp:=pow_pos' h
 unfold Builtin.bitAnd
 have h1:decide ((0:Int) ≤ (a:Int)) = true:=by simp
 have h2:decide ((0:Int) ≤ 2 ^ h - 1) = true:=by simp; lia
 simp only [h1,h2]
 have e:((2:Int) ^ h - 1).toNat = 2 ^ h - 1:=by rw [← pow_cast]; exact Int.toNat_sub (2 ^ h) 1
 rw [e,Int.toNat_natCast,Nat.and_two_pow_sub_one_eq_mod]
 push_cast
 rfl
theorem bor_nat {x y:Int} (hx:0 ≤ x) (hy:0 ≤ y):Builtin.bitOr x y = ((x.toNat ||| y.toNat:Nat):Int):=by
 unfold Builtin.bitOr Builtin.bitAnd
 have h1:decide ((0:Int) ≤ Builtin.bitNot x) = false:=by unfold Builtin.bitNot; simp; lia
 have h2:decide ((0:Int) ≤ Builtin.bitNot y) = false:=by unfold Builtin.bitNot; simp; lia
 simp only [h1,h2]
 have e:∀ z:Int,Builtin.bitNot (Builtin.bitNot z) = z:=fun z => by unfold Builtin.bitNot; lia
 rw [e,e,e]
theorem bor_shift {x y:Int} {h:Nat} (hx:0 ≤ x) (hy:0 ≤ y) (hl:y < 2 ^ h):Builtin.bitOr (x * 2 ^ h) y = x * 2 ^ h + y:=by
 have hp:=pow_pos' h
 rw [bor_nat (Int.mul_nonneg hx (by lia)) hy]
 obtain ⟨a,rfl⟩:=Int.eq_ofNat_of_zero_le hx
 obtain ⟨b,rfl⟩:=Int.eq_ofNat_of_zero_le hy
 have hb:b < 2 ^ h:=by have:=pow_cast h; lia
 have e:((a:Int) * 2 ^ h).toNat = a <<< h:=by rw [Nat.shiftLeft_eq]; rw [show (a:Int) * 2 ^ h = ((a * 2 ^ h:Nat):Int) by push_cast; rfl]; rfl
 rw [e,Int.toNat_natCast,← Nat.shiftLeft_add_eq_or_of_lt hb,Nat.shiftLeft_eq]
 push_cast
 rfl
theorem bor_shift0 {x y:Int} {h:Nat} (hx:0 ≤ x) (hy:0 ≤ y) (hl:y < 2 ^ h):Builtin.bitOr (x * 2 ^ h) y = x * 2 ^ h + y:=bor_shift hx hy hl
theorem bxor_shift {x:Int} (hx:0 ≤ x) (h:Nat):Builtin.bitXor x (x / 2 ^ h * 2 ^ h) = x % 2 ^ h:=by
 rw [bitXor_and]
 obtain ⟨a,rfl⟩:=Int.eq_ofNat_of_zero_le hx
 have e0:(a:Int) / 2 ^ h * 2 ^ h = ((a / 2 ^ h * 2 ^ h:Nat):Int):=by push_cast; rfl
 have e1:Builtin.bitAnd (a:Int) ((a / 2 ^ h * 2 ^ h:Nat):Int) = ((a / 2 ^ h * 2 ^ h:Nat):Int):=by
  unfold Builtin.bitAnd
  have h1:decide ((0:Int) ≤ (a:Int)) = true:=by simp
  have h2:decide ((0:Int) ≤ ((a / 2 ^ h * 2 ^ h:Nat):Int)) = true:=decide_eq_true (Int.natCast_nonneg _)
  simp only [h1,h2]
  rw [Int.toNat_natCast,Int.toNat_natCast]
  congr 1
  have:a / 2 ^ h * 2 ^ h = (a >>> h) <<< h:=by rw [Nat.shiftLeft_eq,Nat.shiftRight_eq_div_pow]
  rw [this]
  apply Nat.eq_of_testBit_eq
  intro i
  rw [Nat.testBit_and,Nat.testBit_shiftLeft,Nat.testBit_shiftRight]
  by_cases hi:i ≥ h
  ·have:h + (i - h) = i:=Nat.add_sub_of_le hi
   rw [this]; simp [hi]
  ·simp [hi]
 rw [e0,e1,← e0]
 have:=Int.emod_add_mul_ediv (a:Int) (2 ^ h)
 have:(a:Int) / 2 ^ h * 2 ^ h = 2 ^ h * ((a:Int) / 2 ^ h):=Int.mul_comm _ _
 lia
theorem dv30 {x y:Nat} (h:x ≤ y + 150 * 30):x / 30 + 1 ≤ y / 30 + 1 + 150:=by
 rw [Nat.add_right_comm]
 exact Nat.succ_le_succ (Nat.le_trans (Nat.div_le_div_right h) (Nat.le_of_eq (Nat.add_mul_div_right y 150 (by decide))))
theorem noPylong {a b:Int} (h:bts a ≤ bts b + 4471):Builtin.divisionGoesByPylong a b = false:=by
 unfold Builtin.divisionGoesByPylong
 have hd:∀ n:Int,n ≠ 0 → n.natAbs.log2 = bts n - 1:=fun n hn => by rw [bts_def,if_neg hn]; lia
 have hb0:∀ n:Int,n = 0 → bts n = 0:=fun n hn => by rw [bts_def,if_pos hn]
 by_cases ha:a = 0
 ·simp [ha]
 by_cases hb:b = 0
 ·simp [hb]
 simp only [beq_iff_eq,ha,hb,if_false,hd a ha,hd b hb]
 simp only [Bool.and_eq_false_imp,decide_eq_true_eq,decide_eq_false_iff_not]
 intro _
 have h2:bts a - 1 ≤ bts b - 1 + 150 * 30:=by have:=bts_pos hb; lia
 exact Nat.not_lt.mpr (dv30 h2)
theorem noPylong_small {a b:Int} (h:bts b ≤ 9000):Builtin.divisionGoesByPylong a b = false:=by
 unfold Builtin.divisionGoesByPylong
 have hd:∀ n:Int,n ≠ 0 → n.natAbs.log2 = bts n - 1:=fun n hn => by rw [bts_def,if_neg hn]; lia
 by_cases hb:b = 0
 ·simp [hb]
 simp only [beq_iff_eq,hb,if_false,hd b hb]
 simp only [Bool.and_eq_false_imp,decide_eq_true_eq,decide_eq_false_iff_not]
 intro _
 lia
theorem imulOk {a b:Int} (h:bts a + bts b ≤ 2 ^ 27):imulNo a b = false:=by
 unfold imulNo Builtin.Int.intTooBig bitsLine
 have:decide (((Builtin.Int.intBits a + Builtin.Int.intBits b:Nat):Int) > ((2 ^ 27:Nat):Int)) = false:=by
  simp only [decide_eq_false_iff_not]
  have:Builtin.Int.intBits a + Builtin.Int.intBits b ≤ 2 ^ 27:=h
  lia
 simp only [Bool.and_eq_false_imp]
 intros
 exact_mod_cast this
section
variable {G:Gl} {n:Nat} {sc:Sc} {vs:VS} {ob:OB} {K:AV → OB → Prop}
theorem ld_dbg {x:Str} {i:Nat} (h:ldIx sc x = some i):(x == ("__debug__" : Str)) = false:=(Bool.or_eq_false_iff.mp (eq_false_of_ne_true (ifF h).1)).1
theorem gn_dbg {x:Str} {a:AV} (h:gName G sc x = some a):(x == ("__debug__" : Str)) = false:=eq_false_of_ne_true (ifF h).1
theorem glLd {k:NameKind}:glK k = true → ¬ldK k = true:=by cases k <;> decide
theorem gn_ld {x:Str} {a:AV} (h:gName G sc x = some a):ldIx sc x = none:=by
 by_cases q:(x == ("__debug__" : Str) || x == ("__classdict__" : Str)) = true
 ·exact if_pos q
 ·refine (if_neg q).trans (bindE (ifF h).2 fun p hp e => ?_)
  rw [hp]
  exact if_neg (glLd (ifT e).1)
theorem xN {x:Str} {p:Pos} {i:Nat} {a:AV} (h:ldIx sc x = some i) (hv:getV vs i = some a) (k:K a ob):runE ((ev G (n + 1)).e sc (.Name x p)) vs ob K:=xName h (ld_dbg h) hv k
theorem xG {x:Str} {p:Pos} {a:AV} (h:gName G sc x = some a) (k:K a ob):runE ((ev G (n + 1)).e sc (.Name x p)) vs ob K:=xGlob (gn_ld h) (gn_dbg h) h k
theorem fN {x:Str} {p:Pos} {i:Nat} {a b:AV} {ob':OB} (h:ldIx sc x = some i) (hv:getV vs i = some a) (ht:tr ob a = some (b,ob')) (k:K b ob'):runE (frz ((ev G (n + 1)).e sc (.Name x p))) vs ob K:=xFrz (xN h hv ⟨_,_,ht,k⟩)
theorem fNO {x:Str} {p:Pos} {i:Nat} {a b:AV} {ob':OB} (h:ldIx sc x = some i) (hv:getV vs i = some a) (ht:tr ob a = some (b,ob')) (k:K b ob'):runE (frzO ((ev G (n + 1)).e sc (.Name x p))) vs ob K:=xFrzO (xN h hv ⟨_,_,ht,k⟩)
theorem fG {x:Str} {p:Pos} {i:Int} (h:gName G sc x = some (.int i)) (k:K (.int i) ob):runE (frz ((ev G (n + 1)).e sc (.Name x p))) vs ob K:=xFrz (xG h ⟨_,_,rfl,k⟩)
theorem fI {i:Int} {kk:Nat} {p:Pos} (k:K (.int i) ob):runE (frz ((ev G (n + 1)).e sc (.Constant (.int i) kk p))) vs ob K:=xFrz (xInt ⟨_,_,rfl,k⟩)
theorem fIO {i:Int} {kk:Nat} {p:Pos} (k:K (.int i) ob):runE (frzO ((ev G (n + 1)).e sc (.Constant (.int i) kk p))) vs ob K:=xFrzO (xInt ⟨_,_,rfl,k⟩)
inductive kOpI (op:Operator) (K:KE) (a:AV) (b:AV) (ob2:OB):Prop
 | mk (z:_) (h1:bopF op a b = some (.int z)) (k:K (.int z) ob2):kOpI op K a b ob2
theorem xB {l y:Expr} {op:Operator} {p:Pos} (h:runE (frz ((ev G n).e sc l)) vs ob (kE2 G n sc vs y (kOpI op K))):runE ((ev G (n + 1)).e sc (.BinOp l op y p)) vs ob K :=
 xBin (by obtain ⟨a,o1,e1,b,o2,e2,z,e3,k⟩:=h; exact ⟨a,o1,e1,b,o2,e2,_,e3,k⟩)
theorem xBt {l y:Expr} {op:Operator} {p:Pos} (h:runE (frz ((ev G n).e sc l)) vs ob (kE2 G n sc vs y (kOpI op K))):runE ((ev G (n + 1)).e sc (.BinOp l op y p)) vs ob (kTr K) :=
 xBin (by obtain ⟨a,o1,e1,b,o2,e2,z,e3,k⟩:=h; exact ⟨a,o1,e1,b,o2,e2,_,e3,_,_,rfl,k⟩)
theorem fB {l y:Expr} {op:Operator} {p:Pos} (h:runE (frz ((ev G n).e sc l)) vs ob (kE2 G n sc vs y (kOpI op K))):runE (frz ((ev G (n + 1)).e sc (.BinOp l op y p))) vs ob K:=xFrz (xBt h)
theorem fBO {l y:Expr} {op:Operator} {p:Pos} (h:runE (frz ((ev G n).e sc l)) vs ob (kE2 G n sc vs y (kOpI op K))):runE (frzO ((ev G (n + 1)).e sc (.BinOp l op y p))) vs ob K:=xFrzO (xBt h)
theorem bAdd {x y:Int}:bopF .Add (.int x) (.int y) = some (.int (x + y)):=rfl
theorem bSub {x y:Int}:bopF .Sub (.int x) (.int y) = some (.int (x - y)):=rfl
theorem bMul {x y:Int} (h:bts x + bts y ≤ 2 ^ 27):bopF .Mult (.int x) (.int y) = some (.int (x * y)):=by
 show (if imulNo x y = true then _ else _) = _
 rw [imulOk h]; rfl
theorem bShl {x y:Int} {k:Nat} (hy:y = k) (h:bts x + k ≤ 2 ^ 27):bopF .LShift (.int x) (.int y) = some (.int (x * 2 ^ k)):=by
 subst hy
 show (if 0 ≤ (k:Int) ∧ ((bts x:Nat):Int) + (k:Int) ≤ 2 ^ 27 then some (AV.int (x * 2 ^ ((k:Int)).toNat)) else none) = _
 rw [if_pos ⟨Int.natCast_nonneg _,by lia⟩,Int.toNat_natCast]
theorem bShr {x y:Int} {k:Nat} (hy:y = k):bopF .RShift (.int x) (.int y) = some (.int (x / 2 ^ k)):=by
 subst hy
 show (if 0 ≤ (k:Int) then some (AV.int (x.fdiv (2 ^ ((k:Int)).toNat))) else none) = _
 rw [if_pos (Int.natCast_nonneg _),Int.toNat_natCast,Int.fdiv_eq_ediv_of_nonneg _ (Int.le_of_lt (pow_pos' k))]
theorem bAndM {x:Int} {k:Nat} {m:Int} (hx:0 ≤ x) (hm:m = 2 ^ k - 1):bopF .BitAnd (.int x) (.int m) = some (.int (x % 2 ^ k)):=by
 subst hm
 show some (AV.int (Builtin.bitAnd x (2 ^ k - 1))) = _
 rw [band_mask hx]
theorem bAnd1 {x:Int}:bopF .BitAnd (.int x) (.int 1) = some (.int (x % 2)):=by
 show some (AV.int (Builtin.bitAnd x 1)) = _
 rw [bitAnd_m1]
theorem bOrS {x y:Int} {k:Nat} (hx:0 ≤ x) (hy:0 ≤ y) (hl:y < 2 ^ k):bopF .BitOr (.int (x * 2 ^ k)) (.int y) = some (.int (x * 2 ^ k + y)):=by
 show some (AV.int (Builtin.bitOr (x * 2 ^ k) y)) = _
 rw [bor_shift hx hy hl]
theorem bXorS {x:Int} {k:Nat} (hx:0 ≤ x):bopF .BitXor (.int x) (.int (x / 2 ^ k * 2 ^ k)) = some (.int (x % 2 ^ k)):=by
 show some (AV.int (Builtin.bitXor x (x / 2 ^ k * 2 ^ k))) = _
 rw [bxor_shift hx]
theorem iShl {x y:Int} {k:Nat} (hy:y = k) (h:bts x + k ≤ 2 ^ 27):iopF .LShift (.int x) (.int y) = some (x * 2 ^ k):=by
 subst hy
 show (if 0 ≤ (k:Int) ∧ ((bts x:Nat):Int) + (k:Int) ≤ 2 ^ 27 then some (x * 2 ^ ((k:Int)).toNat) else none) = _
 rw [if_pos ⟨Int.natCast_nonneg _,by lia⟩,Int.toNat_natCast]
theorem iShr {x y:Int} {k:Nat} (hy:y = k):iopF .RShift (.int x) (.int y) = some (x / 2 ^ k):=by
 subst hy
 show (if 0 ≤ (k:Int) then some (x.fdiv (2 ^ ((k:Int)).toNat)) else none) = _
 rw [if_pos (Int.natCast_nonneg _),Int.toNat_natCast,Int.fdiv_eq_ediv_of_nonneg _ (Int.le_of_lt (pow_pos' k))]
theorem cEqI {x y:Int}:copF .Eq (.int x) (.int y) = some (decide (x = y)):=rfl
noncomputable abbrev kTurn (test:FB) (body orelse:FS) (m:Nat) (KS:KSt):KSt:=fun fl vs2 ob2 => fl = .next ∧ runS (whileF test body orelse m) vs2 ob2 KS
noncomputable abbrev kWh (test:FB) (body orelse:FS) (m:Nat) (vs:VS) (KS:KSt):KBo:=fun b ob1 => Br b (runS body vs ob1 (kTurn test body orelse m KS)) (runS orelse vs ob1 KS)
theorem xWh {test:FB} {body orelse:FS} {m:Nat} {KS:KSt} (h:runB test vs ob (kWh test body orelse m vs KS)):runS (whileF test body orelse (m + 1)) vs ob KS:=by
 obtain ⟨c,ob1,e1,⟨e,a,vs2,ob2,e2,rfl,a3,vs3,ob3,e3,k⟩ | ⟨e,a,vs2,ob2,e2,k⟩⟩:=h
 ·exact ⟨a3,vs3,ob3,bindI e1 (ifI e (bindI e2 e3)),k⟩
 ·exact ⟨a,vs2,ob2,bindI e1 (ifJ (nT e) e2),k⟩
theorem sWh {t:Expr} {body orelse:List Stmt} {p:Pos} {KS:AF → VS → OB → Prop} (h:runS (whileF ((ev G n).i sc t) (ss ((ev G n).s sc) body) (ss ((ev G n).s sc) orelse) 8) vs ob KS):runS ((ev G (n + 1)).s sc (.While t body orelse p)) vs ob KS:=h
theorem cLtI {x y:Int}:copF .Lt (.int x) (.int y) = some (decide (x < y)):=rfl
theorem cLeI {x y:Int}:copF .LtE (.int x) (.int y) = some (decide (x ≤ y)):=rfl
theorem bdZ {P:Nat → Prop}:∀ p,p < 0 → P p:=fun _ h => absurd h (Nat.not_lt_zero _)
theorem bdS {P:Nat → Prop} {n:Nat} (h:∀ p,p < n → P p) (e:P n):∀ p,p < n + 1 → P p:=fun p hp => (Nat.lt_succ_iff_lt_or_eq.mp hp).elim (h p) fun q => q ▸ e
theorem bd3 {P:Nat → Prop} (h0:P 0) (h1:P 1) (h2:P 2):∀ p,p < 3 → P p:=bdS (bdS (bdS bdZ h0) h1) h2
theorem bd4 {P:Nat → Prop} (h0:P 0) (h1:P 1) (h2:P 2) (h3:P 3):∀ p,p < 4 → P p:=bdS (bd3 h0 h1 h2) h3
theorem bd5 {P:Nat → Prop} (h0:P 0) (h1:P 1) (h2:P 2) (h3:P 3) (h4:P 4):∀ p,p < 5 → P p:=bdS (bd4 h0 h1 h2 h3) h4
theorem bdA8 {P:Nat → Prop} {n:Nat} (h:∀ p,p < n → P p) (h0:P n) (h1:P (n + 1)) (h2:P (n + 2)) (h3:P (n + 3)) (h4:P (n + 4)) (h5:P (n + 5)) (h6:P (n + 6)) (h7:P (n + 7)):∀ p,p < n + 8 → P p:=bdS (bdS (bdS (bdS (bdS (bdS (bdS (bdS h h0) h1) h2) h3) h4) h5) h6) h7
theorem bd8 {P:Nat → Prop} (h0:P 0) (h1:P 1) (h2:P 2) (h3:P 3) (h4:P 4) (h5:P 5) (h6:P 6) (h7:P 7):∀ p,p < 8 → P p:=bdA8 bdZ h0 h1 h2 h3 h4 h5 h6 h7
end
section
variable {ob:OB}
theorem l53_a:ldIx (fsc fi53) "a" = some 0:=by kernel_rfl
theorem s53_a:stIx (fsc fi53) "a" = some 0:=by kernel_rfl
theorem l53_b:ldIx (fsc fi53) "b" = some 1:=by kernel_rfl
theorem s53_b:stIx (fsc fi53) "b" = some 1:=by kernel_rfl
theorem l53_n:ldIx (fsc fi53) "n" = some 2:=by kernel_rfl
theorem s53_n:stIx (fsc fi53) "n" = some 2:=by kernel_rfl
theorem l53_pad:ldIx (fsc fi53) "pad" = some 3:=by kernel_rfl
theorem s53_pad:stIx (fsc fi53) "pad" = some 3:=by kernel_rfl
theorem l53_half_n:ldIx (fsc fi53) "half_n" = some 4:=by kernel_rfl
theorem s53_half_n:stIx (fsc fi53) "half_n" = some 4:=by kernel_rfl
theorem l53_mask:ldIx (fsc fi53) "mask" = some 5:=by kernel_rfl
theorem s53_mask:stIx (fsc fi53) "mask" = some 5:=by kernel_rfl
theorem l53_b1:ldIx (fsc fi53) "b1" = some 6:=by kernel_rfl
theorem s53_b1:stIx (fsc fi53) "b1" = some 6:=by kernel_rfl
theorem l53_b2:ldIx (fsc fi53) "b2" = some 7:=by kernel_rfl
theorem s53_b2:stIx (fsc fi53) "b2" = some 7:=by kernel_rfl
theorem l53_q1:ldIx (fsc fi53) "q1" = some 8:=by kernel_rfl
theorem s53_q1:stIx (fsc fi53) "q1" = some 8:=by kernel_rfl
theorem l53_r:ldIx (fsc fi53) "r" = some 9:=by kernel_rfl
theorem s53_r:stIx (fsc fi53) "r" = some 9:=by kernel_rfl
theorem l53_q2:ldIx (fsc fi53) "q2" = some 10:=by kernel_rfl
theorem s53_q2:stIx (fsc fi53) "q2" = some 10:=by kernel_rfl
theorem g53__DIV_LIMIT:gName GP0 (fsc fi53) "_DIV_LIMIT" = some (.int 4000):=by kernel_rfl
theorem g53_divmod:gName GP0 (fsc fi53) "divmod" = some (.cst (.builtin "divmod")):=by kernel_rfl
theorem g53__div3n2n:gName GP0 (fsc fi53) "_div3n2n" = some (.cst (.ref 60)):=by kernel_rfl
theorem l60_a12:ldIx (fsc fi60) "a12" = some 0:=by kernel_rfl
theorem s60_a12:stIx (fsc fi60) "a12" = some 0:=by kernel_rfl
theorem l60_a3:ldIx (fsc fi60) "a3" = some 1:=by kernel_rfl
theorem s60_a3:stIx (fsc fi60) "a3" = some 1:=by kernel_rfl
theorem l60_b:ldIx (fsc fi60) "b" = some 2:=by kernel_rfl
theorem s60_b:stIx (fsc fi60) "b" = some 2:=by kernel_rfl
theorem l60_b1:ldIx (fsc fi60) "b1" = some 3:=by kernel_rfl
theorem s60_b1:stIx (fsc fi60) "b1" = some 3:=by kernel_rfl
theorem l60_b2:ldIx (fsc fi60) "b2" = some 4:=by kernel_rfl
theorem s60_b2:stIx (fsc fi60) "b2" = some 4:=by kernel_rfl
theorem l60_n:ldIx (fsc fi60) "n" = some 5:=by kernel_rfl
theorem s60_n:stIx (fsc fi60) "n" = some 5:=by kernel_rfl
theorem l60_q:ldIx (fsc fi60) "q" = some 6:=by kernel_rfl
theorem s60_q:stIx (fsc fi60) "q" = some 6:=by kernel_rfl
theorem l60_r:ldIx (fsc fi60) "r" = some 7:=by kernel_rfl
theorem s60_r:stIx (fsc fi60) "r" = some 7:=by kernel_rfl
theorem g60__div2n1n:gName GP0 (fsc fi60) "_div2n1n" = some (.cst (.ref 53)):=by kernel_rfl
theorem l67_a:ldIx (fsc fi67) "a" = some 0:=by kernel_rfl
theorem s67_a:stIx (fsc fi67) "a" = some 0:=by kernel_rfl
theorem l67_n:ldIx (fsc fi67) "n" = some 1:=by kernel_rfl
theorem s67_n:stIx (fsc fi67) "n" = some 1:=by kernel_rfl
theorem l67_a_digits:ldIx (fsc fi67) "a_digits" = some 2:=by kernel_rfl
theorem s67_a_digits:stIx (fsc fi67) "a_digits" = some 2:=by kernel_rfl
theorem l67_inner:ldIx (fsc fi67) "inner" = some 3:=by kernel_rfl
theorem s67_inner:stIx (fsc fi67) "inner" = some 3:=by kernel_rfl
theorem g67_len:gName GP0 (fsc fi67) "len" = some (.cst (.builtin "len")):=by kernel_rfl
theorem l74_digits:ldIx (fsc fi74) "digits" = some 0:=by kernel_rfl
theorem s74_digits:stIx (fsc fi74) "digits" = some 0:=by kernel_rfl
theorem l74_n:ldIx (fsc fi74) "n" = some 1:=by kernel_rfl
theorem s74_n:stIx (fsc fi74) "n" = some 1:=by kernel_rfl
theorem l74_inner:ldIx (fsc fi74) "inner" = some 2:=by kernel_rfl
theorem s74_inner:stIx (fsc fi74) "inner" = some 2:=by kernel_rfl
theorem g74_len:gName GP0 (fsc fi74) "len" = some (.cst (.builtin "len")):=by kernel_rfl
theorem l81_a:ldIx (fsc fi81) "a" = some 0:=by kernel_rfl
theorem s81_a:stIx (fsc fi81) "a" = some 0:=by kernel_rfl
theorem l81_b:ldIx (fsc fi81) "b" = some 1:=by kernel_rfl
theorem s81_b:stIx (fsc fi81) "b" = some 1:=by kernel_rfl
theorem l81_n:ldIx (fsc fi81) "n" = some 2:=by kernel_rfl
theorem s81_n:stIx (fsc fi81) "n" = some 2:=by kernel_rfl
theorem l81_a_digits:ldIx (fsc fi81) "a_digits" = some 3:=by kernel_rfl
theorem s81_a_digits:stIx (fsc fi81) "a_digits" = some 3:=by kernel_rfl
theorem l81_r:ldIx (fsc fi81) "r" = some 4:=by kernel_rfl
theorem s81_r:stIx (fsc fi81) "r" = some 4:=by kernel_rfl
theorem l81_q_digits:ldIx (fsc fi81) "q_digits" = some 5:=by kernel_rfl
theorem s81_q_digits:stIx (fsc fi81) "q_digits" = some 5:=by kernel_rfl
theorem l81_a_digit:ldIx (fsc fi81) "a_digit" = some 6:=by kernel_rfl
theorem s81_a_digit:stIx (fsc fi81) "a_digit" = some 6:=by kernel_rfl
theorem l81_q_digit:ldIx (fsc fi81) "q_digit" = some 7:=by kernel_rfl
theorem s81_q_digit:stIx (fsc fi81) "q_digit" = some 7:=by kernel_rfl
theorem l81_q:ldIx (fsc fi81) "q" = some 8:=by kernel_rfl
theorem s81_q:stIx (fsc fi81) "q" = some 8:=by kernel_rfl
theorem g81__int2digits:gName GP0 (fsc fi81) "_int2digits" = some (.cst (.ref 67)):=by kernel_rfl
theorem g81_reversed:gName GP0 (fsc fi81) "reversed" = some (.cst (.type "reversed")):=by kernel_rfl
theorem g81__div2n1n:gName GP0 (fsc fi81) "_div2n1n" = some (.cst (.ref 53)):=by kernel_rfl
theorem g81__digits2int:gName GP0 (fsc fi81) "_digits2int" = some (.cst (.ref 74)):=by kernel_rfl
theorem l88_a:ldIx (fsc fi88) "a" = some 0:=by kernel_rfl
theorem s88_a:stIx (fsc fi88) "a" = some 0:=by kernel_rfl
theorem l88_b:ldIx (fsc fi88) "b" = some 1:=by kernel_rfl
theorem s88_b:stIx (fsc fi88) "b" = some 1:=by kernel_rfl
theorem l88_q:ldIx (fsc fi88) "q" = some 2:=by kernel_rfl
theorem s88_q:stIx (fsc fi88) "q" = some 2:=by kernel_rfl
theorem l88_r:ldIx (fsc fi88) "r" = some 3:=by kernel_rfl
theorem s88_r:stIx (fsc fi88) "r" = some 3:=by kernel_rfl
theorem g88_int_divmod:gName GP0 (fsc fi88) "int_divmod" = some (.cst (.ref 88)):=by kernel_rfl
theorem g88__divmod_pos:gName GP0 (fsc fi88) "_divmod_pos" = some (.cst (.ref 81)):=by kernel_rfl
theorem Br.dec {p:Prop} [Decidable p] {P Q:Prop} (h1:p → P) (h2:¬ p → Q):Br (decide p) P Q:=.both (fun h => h1 (of_decide_eq_true h)) (fun h => h2 (of_decide_eq_false h))
theorem two_sz:2 ≤ sizeLine:=by decide
theorem bts1:bts 1 = 1:=by decide
theorem fin60 {A b q r:Int} (hb:0 < b) (h:r = A - q * b) (h0:0 ≤ r) (h1:r < b):tr [] (AV.tup [.int q,.int r]) = some (.tup [.int (A / b),.int (A % b)],[]):=by
 have e:A = q * b + r:=by lia
 have hq:A / b = q:=by
  rw [e,Int.add_comm,Int.add_mul_ediv_right _ _ (by lia),Int.ediv_eq_zero_of_lt h0 h1]; lia
 have hr:A % b = r:=by
  rw [e,Int.add_comm,Int.add_mul_emod_self_right]; exact Int.emod_eq_of_lt h0 h1
 rw [hq,hr]; rfl
theorem tail60 {f:Nat} {A12 A3 b b1 b2 q r0 A:Int} {m:Nat} (hm:m ≤ 2 ^ 23) (h3:0 ≤ A3) (h3':A3 < 2 ^ m) (hr0:0 ≤ r0) (hrb:r0 < 2 ^ (m + 1)) (hq:bts q ≤ m) (hb2:bts b2 ≤ m) (hb:0 < b) (hA:r0 * 2 ^ m + A3 - q * b2 = A - q * b) (hlo:-(2 * b) ≤ A - q * b) (hhi:A - q * b < b) :
  runS (ss ((ev GP0 (f + 10)).s (fsc fi60)) (fi60.body.drop 1)) [some (.int A12),some (.int A3),some (.int b),some (.int b1),some (.int b2),some (.int m),some (.int q),some (.int r0),none] [] (fun fl _ ob1 => ∃ a ob2,fl = .ret a ∧ tr ob1 a = some (.tup [.int (A / b),.int (A % b)],ob2)):=by
 have h27:(2:Nat) ^ 27 = 16 * 2 ^ 23:=by decide
 have hr1:bts r0 ≤ m + 1:=bts_le' hr0 hrb
 refine xss1 ?_;refine sAssignB s60_r ?_;refine fB ?_;refine fB ?_;refine fN l60_r rfl rfl ?_;refine fN l60_n rfl rfl ?_
 refine ⟨_,bShl rfl (by lia),?_⟩
 refine fN l60_a3 rfl rfl ?_
 refine ⟨_,bOrS hr0 h3 h3',?_⟩
 refine fB ?_;refine fN l60_q rfl rfl ?_;refine fN l60_b2 rfl rfl ?_
 refine ⟨_,bMul (by lia),?_⟩
 refine ⟨rfl,_,rfl,?_⟩
 refine seqN ?_
 rw [hA]
 generalize hR:A - q * b = R at *
 refine xss1 ?_;refine sWh ?_;refine xWh ?_;refine iCmp1 rfl rfl ?_;refine fN l60_r rfl rfl ?_;refine fI ?_
 refine ⟨_,cLtI,?_⟩
 refine Br.dec (fun h => ?_) (fun h => ?_)
 ·refine xss1 ?_
  refine sAug1 l60_q s60_q rfl rfl ?_;refine fI ?_
  refine ⟨_,rfl,?_⟩
  refine seqN ?_;refine xss1 ?_;refine sAug1 l60_r s60_r rfl rfl ?_;refine fN l60_b rfl rfl ?_
  refine ⟨_,rfl,?_⟩
  refine seqN ?_;refine xss0 ?_
  refine ⟨rfl,?_⟩
  refine xWh ?_;refine iCmp1 rfl rfl ?_;refine fN l60_r rfl rfl ?_;refine fI ?_
  refine ⟨_,cLtI,?_⟩
  refine Br.dec (fun h => ?_) (fun h => ?_)
  ·refine xss1 ?_
   refine sAug1 l60_q s60_q rfl rfl ?_;refine fI ?_
   refine ⟨_,rfl,?_⟩
   refine seqN ?_;refine xss1 ?_;refine sAug1 l60_r s60_r rfl rfl ?_;refine fN l60_b rfl rfl ?_
   refine ⟨_,rfl,?_⟩
   refine seqN ?_;refine xss0 ?_
   refine ⟨rfl,?_⟩
   refine xWh ?_;refine iCmp1 rfl rfl ?_;refine fN l60_r rfl rfl ?_;refine fI ?_
   refine ⟨_,cLtI,?_⟩
   refine Br.dec (fun h => ?_) (fun h => ?_)
   ·exfalso; lia
   ·refine xss0 ?_
    refine seqN ?_;refine xss1 ?_;refine sRet1 (.inl rfl) ?_;refine xTup rfl ?_;refine xEvs1 ?_;refine fN l60_q rfl rfl ?_;refine xEvs1 ?_;refine fN l60_r rfl rfl ?_
    exact xEvs0 ⟨⟨rfl,two_sz⟩,seqR ⟨_,[],rfl,fin60 hb (by rw [Int.sub_mul,Int.sub_mul]; lia) (by lia) (by lia)⟩⟩
  ·refine xss0 ?_
   refine seqN ?_;refine xss1 ?_;refine sRet1 (.inl rfl) ?_;refine xTup rfl ?_;refine xEvs1 ?_;refine fN l60_q rfl rfl ?_;refine xEvs1 ?_;refine fN l60_r rfl rfl ?_
   exact xEvs0 ⟨⟨rfl,two_sz⟩,seqR ⟨_,[],rfl,fin60 hb (by rw [Int.sub_mul]; lia) (by lia) (by lia)⟩⟩
 ·refine xss0 ?_
  refine seqN ?_;refine xss1 ?_;refine sRet1 (.inl rfl) ?_;refine xTup rfl ?_;refine xEvs1 ?_;refine fN l60_q rfl rfl ?_;refine xEvs1 ?_;refine fN l60_r rfl rfl ?_
  exact xEvs0 ⟨⟨rfl,two_sz⟩,seqR ⟨_,[],rfl,fin60 hb (by lia) (by lia) (by lia)⟩⟩
theorem div_lt {a b c:Int} (hb:0 < b) (h:a < c * b):a / b < c:=Int.ediv_lt_of_lt_mul hb h
theorem w60 {f:Nat} {a12 a3 b1 b2:Int} {m:Nat} (hm:m ≤ 2 ^ 23) (ha:0 ≤ a12) (h3:0 ≤ a3) (h3':a3 < 2 ^ m) (hb1:2 ^ m ≤ 2 * b1) (hb1':b1 < 2 ^ m) (h2:0 ≤ b2) (h2':b2 < 2 ^ m) (hlt:a12 < b1 * 2 ^ m + b2)
  (hD:a12 < b1 * 2 ^ m → callI (ev GP0 (f + 7)) fi53 [.int a12,.int b1,.int m] [] = some (.tup [.int (a12 / b1),.int (a12 % b1)],[])) :
  callI (ev GP0 (f + 10)) fi60 [.int a12,.int a3,.int (b1 * 2 ^ m + b2),.int b1,.int b2,.int m] ob = some (.tup [.int ((a12 * 2 ^ m + a3) / (b1 * 2 ^ m + b2)),.int ((a12 * 2 ^ m + a3) % (b1 * 2 ^ m + b2))],ob):=by
 have hp:=pow_pos' m
 have h27:(2:Nat) ^ 27 = 16 * 2 ^ 23:=by decide
 have hb0:0 < b1:=by lia
 have hbb1:bts b1 ≤ m:=bts_le' (by lia) hb1'
 have hbb2:bts b2 ≤ m:=bts_le' h2 h2'
 have e2:(2:Int) ^ (m + 1) = 2 ^ m * 2:=Int.pow_succ 2 m
 have hM:0 < b1 * 2 ^ m:=Int.mul_pos hb0 hp
 have hdist:∀ q r:Int,a12 = q * b1 + r → r * 2 ^ m + a3 - q * b2 = a12 * 2 ^ m + a3 - q * (b1 * 2 ^ m + b2):=fun q r h => by
  subst h
  rw [Int.add_mul,Int.mul_add,Int.mul_assoc]; lia
 have hqb:∀ q:Int,q < 2 ^ m → 0 ≤ q → q * b2 ≤ 2 ^ m * (2 * b1):=fun q h1 h0 => Int.le_trans (Int.mul_le_mul (Int.le_of_lt h1) (Int.le_of_lt h2') h2 (Int.le_of_lt hp)) (Int.mul_le_mul (Int.le_refl _) hb1 (Int.le_of_lt hp) (Int.le_of_lt hp))
 have hcm:(2:Int) ^ m * (2 * b1) = 2 * (b1 * 2 ^ m):=by rw [Int.mul_comm (2 ^ m),Int.mul_assoc]
 refine callI_of ⟨by rfl,by rfl,by rfl,by rfl⟩ ?_
 rw [show setVs (vs₀ fi60.fd) fi60.is [.int a12,.int a3,.int (b1 * 2 ^ m + b2),.int b1,.int b2,.int m] = [some (.int a12),some (.int a3),some (.int (b1 * 2 ^ m + b2)),some (.int b1),some (.int b2),some (.int m),none,none,none] from by kernel_rfl]
 refine xss1 ?_;refine sIf1 ?_;refine iCmp1 rfl rfl ?_;refine fB ?_;refine fN l60_a12 rfl rfl ?_;refine fN l60_n rfl rfl ?_
 refine ⟨_,bShr rfl,?_⟩
 refine fN l60_b1 rfl rfl ?_
 refine ⟨_,cEqI,?_⟩
 refine Br.dec (fun h => ?_) (fun h => ?_)
 ·refine xss1 ?_
  refine sTup1 s60_q s60_r ⟨by decide,rfl⟩ ?_;refine xTup rfl ?_;refine xEvs1 ?_;refine fB ?_;refine fB ?_;refine fI ?_;refine fN l60_n rfl rfl ?_
  refine ⟨_,bShl rfl (by rw [bts1]; lia),?_⟩
  refine fI ?_
  refine ⟨_,rfl,?_⟩
  refine xEvs1 ?_;refine fB ?_;refine fB ?_;refine fN l60_a12 rfl rfl ?_;refine fB ?_;refine fN l60_b1 rfl rfl ?_;refine fN l60_n rfl rfl ?_
  refine ⟨_,bShl rfl (by lia),?_⟩
  refine ⟨_,rfl,?_⟩
  refine fN l60_b1 rfl rfl ?_
  refine ⟨_,rfl,?_⟩
  refine xEvs0 ?_
  refine ⟨⟨rfl,two_sz⟩,_,_,rfl,?_⟩
  refine seqN ?_;refine xss0 ?_;refine seqN ?_
  have hle:b1 * 2 ^ m ≤ a12:=by
   have:=Int.ediv_mul_le a12 (b:=2 ^ m) (by lia)
   rw [h] at this; exact this
  have e:a12 = (1 * 2 ^ m - 1) * b1 + (a12 - b1 * 2 ^ m + b1):=by rw [Int.sub_mul,Int.one_mul,Int.one_mul,Int.mul_comm (2 ^ m)]; lia
  have e5:=hdist _ _ e
  have e4:a12 * 2 ^ m + a3 < 1 * 2 ^ m * (b1 * 2 ^ m + b2):=by
   have:=Int.mul_le_mul_of_nonneg_right (Int.add_one_le_of_lt hlt) (Int.le_of_lt hp)
   rw [Int.add_mul,Int.one_mul,Int.mul_comm (b1 * 2 ^ m + b2)] at this
   rw [Int.one_mul]; lia
  refine tail60 hm h3 h3' (by lia) (by lia) (bts_le' (by lia) (by lia)) hbb2 (by lia) e5 ?_ ?_
  ·rw [← e5]
   have h5:=hqb (1 * 2 ^ m - 1) (by lia) (by lia)
   have h6:0 ≤ (a12 - b1 * 2 ^ m + b1) * 2 ^ m:=Int.mul_nonneg (by lia) (by lia)
   lia
  ·rw [Int.sub_mul]; lia
 ·have hlt':a12 < b1 * 2 ^ m:=by
   have h4:a12 / 2 ^ m ≤ b1:=by
    have:a12 / 2 ^ m < b1 + 1:=div_lt hp (by rw [Int.add_mul]; lia)
    lia
   have h5:a12 / 2 ^ m < b1:=by lia
   exact Int.lt_mul_of_ediv_lt hp h5
  refine xss1 ?_;refine sTup1 s60_q s60_r ⟨by decide,rfl⟩ ?_;refine xCallI g60__div2n1n rfl rfl rfl ?_;refine xEvs1 ?_;refine fNO l60_a12 rfl rfl ?_;refine xEvs1 ?_;refine fNO l60_b1 rfl rfl ?_;refine xEvs1 ?_;refine fNO l60_n rfl rfl ?_;refine xEvs0 ?_
  refine ⟨rfl,rfl,_,hD hlt',_,_,rfl,?_⟩
  refine seqN ?_;refine xss0 ?_;refine seqN ?_
  have hr0:0 ≤ a12 % b1:=Int.emod_nonneg _ (by lia)
  have hr1:a12 % b1 < b1:=Int.emod_lt_of_pos _ hb0
  have e:a12 = a12 / b1 * b1 + a12 % b1:=by have:=Int.mul_ediv_add_emod a12 b1; rw [Int.mul_comm] at this; lia
  have hq0:0 ≤ a12 / b1:=Int.ediv_nonneg ha (by lia)
  have hq1:a12 / b1 < 2 ^ m:=div_lt hb0 (by rw [Int.mul_comm]; exact hlt')
  have e5:=hdist _ _ e
  refine tail60 hm h3 h3' hr0 (by lia) (bts_le' hq0 hq1) hbb2 (by lia) e5 ?_ ?_
  ·rw [← e5]
   have h5:=hqb _ hq1 hq0
   have h6:0 ≤ a12 % b1 * 2 ^ m:=Int.mul_nonneg hr0 (by lia)
   lia
  ·rw [← e5]
   have h5:0 ≤ a12 / b1 * b2:=Int.mul_nonneg hq0 h2
   have h6:(a12 % b1 + 1) * 2 ^ m ≤ b1 * 2 ^ m:=Int.mul_le_mul_of_nonneg_right (by lia) (by lia)
   rw [Int.add_mul,Int.one_mul] at h6
   lia
end
section
variable {ob:OB}
noncomputable def KR (z:AV):AF → VS → OB → Prop:=fun fl _ ob1 => ∃ a ob2,fl = .ret a ∧ tr ob1 a = some (z,ob2)
theorem halves {a b q1 r1 a0 c:Int} (hb:0 < b) {A1:Int} (hA:a = A1 * c + a0) (h1:q1 = A1 / b) (h2:r1 = A1 % b):a / b = q1 * c + (r1 * c + a0) / b ∧ a % b = (r1 * c + a0) % b:=by
 have e:A1 = q1 * b + r1:=by have:=Int.mul_ediv_add_emod A1 b; rw [Int.mul_comm] at this; subst h1; subst h2; lia
 have e2:a = r1 * c + a0 + q1 * c * b:=by
  have:(q1 * b + r1) * c = q1 * c * b + r1 * c:=by rw [Int.add_mul,Int.mul_right_comm]
  rw [hA,e,this]; lia
 constructor
 ·rw [e2,Int.add_mul_ediv_right _ _ (by lia)]; lia
 ·rw [e2,Int.add_mul_emod_self_right]
theorem pow_two_mul (h:Nat):(2:Int) ^ (2 * h) = 2 ^ h * 2 ^ h:=by rw [← Int.pow_add]; congr 1; lia
theorem hf53 {b:Int} {h:Nat} (hh:0 < h) (hb:2 ^ (2 * h) ≤ 2 * b) (hb':b < 2 ^ (2 * h)):b / 2 ^ h < 2 ^ h ∧ 2 ^ h ≤ 2 * (b / 2 ^ h):=by
 have P:=pow_pos' h
 have e2:=pow_two_mul h
 refine ⟨div_lt P (by lia),?_⟩
 obtain ⟨k,rfl⟩:∃ k,h = k + 1:=⟨h - 1,by lia⟩
 have e3:(2:Int) ^ (k + 1) = 2 ^ k * 2:=Int.pow_succ 2 k
 have:(2:Int) ^ k ≤ b / 2 ^ (k + 1):=by
  apply Int.le_ediv_of_mul_le P
  have h2:(2:Int) ^ (k + 1) * 2 ^ (k + 1) = 2 * (2 ^ k * 2 ^ (k + 1)):=by
   have:(2:Int) ^ (k + 1) * 2 ^ (k + 1) = (2 ^ k * 2) * 2 ^ (k + 1):=by rw [e3]
   rw [this,Int.mul_comm (2 ^ k) 2,Int.mul_assoc]
  lia
 lia
theorem tail53 {f:Nat} {a b pad:Int} {h:Nat} {z:AV} (hh:0 < h) (hm:h ≤ 2 ^ 21) (ha:0 ≤ a) (hlt:a < b * 2 ^ (2 * h)) (hb:2 ^ (2 * h) ≤ 2 * b) (hb':b < 2 ^ (2 * h))
  (hD:∀ x:Int,0 ≤ x → x < b / 2 ^ h * 2 ^ h → callI (ev GP0 (f + 7)) fi53 [.int x,.int (b / 2 ^ h),.int h] [] = some (.tup [.int (x / (b / 2 ^ h)),.int (x % (b / 2 ^ h))],[]))
  (hp:(pad = 0 ∧ z = .tup [.int (a / b),.int (a % b)]) ∨ (pad = 1 ∧ z = .tup [.int (a / b),.int (a % b / 2)])) :
  runS (ss ((ev GP0 (f + 12)).s (fsc fi53)) (fi53.body.drop 3)) [some (.int a),some (.int b),some (.int ((2 * h:Nat):Int)),some (.int pad),none,none,none,none,none,none,none,none,none,none] [] (KR z):=by
 have h27:(2:Nat) ^ 27 = 64 * 2 ^ 21:=by decide
 have h23:(2:Nat) ^ 23 = 4 * 2 ^ 21:=by decide
 have P:=pow_pos' h
 have e2:=pow_two_mul h
 have PP:(0:Int) < 2 ^ h * 2 ^ h:=Int.mul_pos P P
 have hb0:0 < b:=by lia
 have hbe:b / 2 ^ h * 2 ^ h + b % 2 ^ h = b:=by have:=Int.mul_ediv_add_emod b (2 ^ h); rw [Int.mul_comm] at this; exact this
 have hb20:0 ≤ b % 2 ^ h:=Int.emod_nonneg _ (by lia)
 have hb21:b % 2 ^ h < 2 ^ h:=Int.emod_lt_of_pos _ P
 obtain ⟨hb11,hb1⟩:=hf53 hh hb hb'
 have hA:a / 2 ^ (2 * h) = a / 2 ^ h / 2 ^ h:=by rw [e2,Int.ediv_ediv_of_nonneg (Int.le_of_lt P)]
 have hA0:0 ≤ a / 2 ^ h:=Int.ediv_nonneg ha (Int.le_of_lt P)
 have hAA:a / 2 ^ h / 2 ^ h * 2 ^ h + a / 2 ^ h % 2 ^ h = a / 2 ^ h:=by have:=Int.mul_ediv_add_emod (a / 2 ^ h) (2 ^ h); rw [Int.mul_comm] at this; exact this
 have hae:a = a / 2 ^ h * 2 ^ h + a % 2 ^ h:=by have:=Int.mul_ediv_add_emod a (2 ^ h); rw [Int.mul_comm] at this; lia
 have hab:a / 2 ^ h / 2 ^ h < b:=by rw [← hA]; exact div_lt (by lia) hlt
 have c1:=@w60 [] f (a / 2 ^ h / 2 ^ h) (a / 2 ^ h % 2 ^ h) (b / 2 ^ h) (b % 2 ^ h) h (by lia) (Int.ediv_nonneg hA0 (Int.le_of_lt P)) (Int.emod_nonneg _ (by lia)) (Int.emod_lt_of_pos _ P) hb1 hb11 hb20 hb21 (by lia) (fun q => hD _ (Int.ediv_nonneg hA0 (Int.le_of_lt P)) q)
 have r10:0 ≤ a / 2 ^ h % b:=Int.emod_nonneg _ (by lia)
 have r11:a / 2 ^ h % b < b:=Int.emod_lt_of_pos _ hb0
 have a00:0 ≤ a % 2 ^ h:=Int.emod_nonneg _ (by lia)
 have a01:a % 2 ^ h < 2 ^ h:=Int.emod_lt_of_pos _ P
 have c2:=@w60 [] f (a / 2 ^ h % b) (a % 2 ^ h) (b / 2 ^ h) (b % 2 ^ h) h (by lia) r10 a00 a01 hb1 hb11 hb20 hb21 (by lia) (fun q => hD _ r10 q)
 rw [hbe] at c1 c2
 rw [hAA] at c1
 obtain ⟨hq,hr⟩:=halves hb0 hae (q1:=a / 2 ^ h / b) (r1:=a / 2 ^ h % b) rfl rfl
 have q10:0 ≤ a / 2 ^ h / b:=Int.ediv_nonneg hA0 (by lia)
 have q11:a / 2 ^ h / b < 2 ^ h:=by
  apply div_lt hb0
  apply div_lt P
  rw [Int.mul_right_comm,← e2,Int.mul_comm]; exact hlt
 have q20:0 ≤ (a / 2 ^ h % b * 2 ^ h + a % 2 ^ h) / b:=Int.ediv_nonneg (by have:=Int.mul_nonneg r10 (Int.le_of_lt P); lia) (by lia)
 have q21:(a / 2 ^ h % b * 2 ^ h + a % 2 ^ h) / b < 2 ^ h:=by
  apply div_lt hb0
  have:(a / 2 ^ h % b + 1) * 2 ^ h ≤ b * 2 ^ h:=Int.mul_le_mul_of_nonneg_right (by lia) (by lia)
  rw [Int.add_mul,Int.one_mul] at this
  rw [Int.mul_comm (2 ^ h) b]; lia
 have hsh:((2 * h:Nat):Int) / 2 ^ 1 = h:=by lia
 refine xss1 ?_;refine sAssignB s53_half_n ?_;refine fN l53_n rfl rfl ?_;refine fI ?_
 refine ⟨rfl,_,bShr (k:=1) rfl,seqN ?_⟩
 rw [hsh]
 refine xss1 ?_;refine sAssignB s53_mask ?_;refine fB ?_;refine fI ?_;refine fN l53_half_n rfl rfl ?_
 refine ⟨_,bShl rfl (by rw [bts1]; lia),?_⟩
 refine fI ?_
 refine ⟨rfl,_,rfl,seqN ?_⟩
 have hmask:(1:Int) * 2 ^ h - 1 = 2 ^ h - 1:=by lia
 refine xss1 ?_;refine sTup1 s53_b1 s53_b2 ⟨by decide,rfl⟩ ?_;refine xTup rfl ?_;refine xEvs1 ?_;refine fB ?_;refine fN l53_b rfl rfl ?_;refine fN l53_half_n rfl rfl ?_
 refine ⟨_,bShr rfl,?_⟩
 refine xEvs1 ?_;refine fB ?_;refine fN l53_b rfl rfl ?_;refine fN l53_mask rfl rfl ?_
 refine ⟨_,bAndM (by lia) hmask,?_⟩
 refine xEvs0 ?_
 refine ⟨⟨rfl,two_sz⟩,_,_,rfl,?_⟩
 refine seqN ?_;refine xss1 ?_;refine sTup1 s53_q1 s53_r ⟨by decide,rfl⟩ ?_;refine xCallI g53__div3n2n rfl rfl rfl ?_;refine xEvs1 ?_;refine fBO ?_;refine fN l53_a rfl rfl ?_;refine fN l53_n rfl rfl ?_
 refine ⟨_,bShr rfl,?_⟩
 refine xEvs1 ?_;refine fBO ?_;refine fB ?_;refine fN l53_a rfl rfl ?_;refine fN l53_half_n rfl rfl ?_
 refine ⟨_,bShr rfl,?_⟩
 refine fN l53_mask rfl rfl ?_
 refine ⟨_,bAndM hA0 hmask,?_⟩
 refine xEvs1 ?_;refine fNO l53_b rfl rfl ?_;refine xEvs1 ?_;refine fNO l53_b1 rfl rfl ?_;refine xEvs1 ?_;refine fNO l53_b2 rfl rfl ?_;refine xEvs1 ?_;refine fNO l53_half_n rfl rfl ?_;refine xEvs0 ?_
 refine ⟨rfl,rfl,_,by rw [hA]; exact c1,_,_,rfl,?_⟩
 refine seqN ?_;refine xss1 ?_;refine sTup1 s53_q2 s53_r ⟨by decide,rfl⟩ ?_;refine xCallI g53__div3n2n rfl rfl rfl ?_;refine xEvs1 ?_;refine fNO l53_r rfl rfl ?_;refine xEvs1 ?_;refine fBO ?_;refine fN l53_a rfl rfl ?_;refine fN l53_mask rfl rfl ?_
 refine ⟨_,bAndM ha hmask,?_⟩
 refine xEvs1 ?_;refine fNO l53_b rfl rfl ?_;refine xEvs1 ?_;refine fNO l53_b1 rfl rfl ?_;refine xEvs1 ?_;refine fNO l53_b2 rfl rfl ?_;refine xEvs1 ?_;refine fNO l53_half_n rfl rfl ?_;refine xEvs0 ?_
 refine ⟨rfl,rfl,_,c2,_,_,rfl,?_⟩
 refine seqN ?_
 have bq:bts (a / 2 ^ h / b) ≤ h:=bts_le' q10 q11
 rcases hp with ⟨rfl,rfl⟩ | ⟨rfl,rfl⟩
 ·refine xss1 ?_
  refine sIf1 ?_
  refine iVal1 (fun _ _ => rfl) ?_
  refine fN l53_pad rfl rfl ?_
  refine ⟨_,rfl,Br.f ?_⟩
  refine xss0 ?_;refine seqN ?_;refine xss1 ?_;refine sRet1 (.inl rfl) ?_;refine xTup rfl ?_;refine xEvs1 ?_;refine fB ?_;refine fB ?_;refine fN l53_q1 rfl rfl ?_;refine fN l53_half_n rfl rfl ?_
  refine ⟨_,bShl rfl (by lia),?_⟩
  refine fN l53_q2 rfl rfl ?_
  refine ⟨_,bOrS q10 q20 q21,?_⟩
  refine xEvs1 ?_;refine fN l53_r rfl rfl ?_;refine xEvs0 ?_
  refine ⟨⟨rfl,two_sz⟩,seqR ⟨_,[],rfl,?_⟩⟩
  rw [hq,hr]; rfl
 ·refine xss1 ?_
  refine sIf1 ?_
  refine iVal1 (fun _ _ => rfl) ?_
  refine fN l53_pad rfl rfl ?_
  refine ⟨_,rfl,Br.t ?_⟩
  refine xss1 ?_;refine sAug1 l53_r s53_r rfl rfl ?_;refine fI ?_
  refine ⟨_,iShr (k:=1) rfl,?_⟩
  refine seqN ?_;refine xss0 ?_;refine seqN ?_;refine xss1 ?_;refine sRet1 (.inl rfl) ?_;refine xTup rfl ?_;refine xEvs1 ?_;refine fB ?_;refine fB ?_;refine fN l53_q1 rfl rfl ?_;refine fN l53_half_n rfl rfl ?_
  refine ⟨_,bShl rfl (by lia),?_⟩
  refine fN l53_q2 rfl rfl ?_
  refine ⟨_,bOrS q10 q20 q21,?_⟩
  refine xEvs1 ?_;refine fN l53_r rfl rfl ?_;refine xEvs0 ?_
  refine ⟨⟨rfl,two_sz⟩,seqR ⟨_,[],rfl,?_⟩⟩
  rw [hq,hr]; rfl
theorem bts_of {b:Int} {m:Nat} (h1:2 ^ m ≤ 2 * b) (h2:b < 2 ^ m):bts b = m:=by
 have P:=pow_pos' m
 have h3:bts b ≤ m:=bts_le' (by lia) h2
 have h4:=lt_bts' (Nat.le_refl (bts b))
 have e:(2:Int) ^ (bts b + 1) = 2 ^ bts b * 2:=Int.pow_succ 2 _
 have h5:m < bts b + 1:=by
  apply Nat.lt_of_not_le
  intro q
  have:=pow_le' q
  lia
 lia
theorem divmodOk {a b:Int} (hb:0 < b) (h:bts a ≤ bts b + 4471):bfn "divmod" [.int a,.int b] ob = some (.tup [.int (a / b),.int (a % b)],ob):=by
 have:bfn "divmod" [.int a,.int b] ob = (if b = 0 ∨ Builtin.divisionGoesByPylong a b = true then none else some (.tup [.int (a.fdiv b),.int (a.fmod b)])).map fun z => (z,ob):=rfl
 rw [this,if_neg (by rw [noPylong h]; exact fun q => q.elim (Int.ne_of_gt hb) Bool.false_ne_true),Int.fdiv_eq_ediv_of_nonneg _ (Int.le_of_lt hb),Int.fmod_eq_emod_of_nonneg _ (Int.le_of_lt hb)]
 rfl
theorem w53:∀ (d m:Nat) (a b:Int) (F:Nat) (ob:OB),m ≤ 4000 * 2 ^ d → m ≤ 2 ^ 21 → 0 ≤ a → a < b * 2 ^ m → 2 ^ m ≤ 2 * b → b < 2 ^ m → 5 * d + 12 ≤ F →
  callI (ev GP0 F) fi53 [.int a,.int b,.int m] ob = some (.tup [.int (a / b),.int (a % b)],ob):=by
 intro d
 induction d with
 | zero =>
  intro m a b F ob hd hm ha hlt hb hb' hF
  obtain ⟨f,rfl⟩:=Nat.exists_eq_add_of_le' (Nat.le_trans (Nat.le_add_left 12 _) hF)
  refine callI_of ⟨by rfl,by rfl,by rfl,by rfl⟩ ?_
  rw [show setVs (vs₀ fi53.fd) fi53.is [.int a,.int b,.int m] = [some (.int a),some (.int b),some (.int m),none,none,none,none,none,none,none,none,none,none,none] from by kernel_rfl]
  refine xss1 ?_;refine sIf1 ?_;refine iCmp1 rfl rfl ?_;refine fB ?_;refine xFrz ?_;refine xBits rfl rfl rfl ?_;refine xN l53_a rfl ?_
  refine ⟨_,rfl,rfl,?_⟩
  have hbt:bts a = Builtin.Int.intBits a:=rfl
  have hab:bts a ≤ 2 * m:=by
   apply bts_le' ha
   have e:=pow_two_mul m
   have:b * 2 ^ m ≤ 2 ^ m * 2 ^ m:=Int.mul_le_mul_of_nonneg_right (by lia) (by have:=pow_pos' m; lia)
   lia
  refine ⟨_,_,rfl,?_⟩
  refine fN l53_n rfl rfl ?_
  refine ⟨_,bSub,?_⟩
  refine fG g53__DIV_LIMIT ?_
  refine ⟨_,cLeI,?_⟩
  refine Br.dec (fun hc => ?_) (fun hc => ?_)
  ·have bb:=bts_of hb hb'
   have P:=pow_pos' m
   refine xss1 ?_;refine sRet1 (.inl rfl) ?_;refine xCallB g53_divmod rfl rfl ?_;refine xEvs1 ?_;refine fNO l53_a rfl rfl ?_;refine xEvs1 ?_;refine fNO l53_b rfl rfl ?_;refine xEvs0 ?_
   exact ⟨rfl,_,divmodOk (by lia) (by lia),seqR (seqR ⟨_,[],rfl,rfl⟩)⟩
  ·exfalso; lia
 | succ d ih =>
  intro m a b F ob hd hm ha hlt hb hb' hF
  obtain ⟨f,rfl⟩:=Nat.exists_eq_add_of_le' (Nat.le_trans (Nat.le_add_left 12 _) hF)
  refine callI_of ⟨by rfl,by rfl,by rfl,by rfl⟩ ?_
  rw [show setVs (vs₀ fi53.fd) fi53.is [.int a,.int b,.int m] = [some (.int a),some (.int b),some (.int m),none,none,none,none,none,none,none,none,none,none,none] from by kernel_rfl]
  refine xss1 ?_;refine sIf1 ?_;refine iCmp1 rfl rfl ?_;refine fB ?_;refine xFrz ?_;refine xBits rfl rfl rfl ?_;refine xN l53_a rfl ?_
  refine ⟨_,rfl,rfl,?_⟩
  have hbt:bts a = Builtin.Int.intBits a:=rfl
  have hab:bts a ≤ 2 * m:=by
   apply bts_le' ha
   have e:=pow_two_mul m
   have:b * 2 ^ m ≤ 2 ^ m * 2 ^ m:=Int.mul_le_mul_of_nonneg_right (by lia) (by have:=pow_pos' m; lia)
   lia
  refine ⟨_,_,rfl,?_⟩
  refine fN l53_n rfl rfl ?_
  refine ⟨_,bSub,?_⟩
  refine fG g53__DIV_LIMIT ?_
  refine ⟨_,cLeI,?_⟩
  refine Br.dec (fun hc => ?_) (fun hc => ?_)
  ·have bb:=bts_of hb hb'
   have P:=pow_pos' m
   refine xss1 ?_;refine sRet1 (.inl rfl) ?_;refine xCallB g53_divmod rfl rfl ?_;refine xEvs1 ?_;refine fNO l53_a rfl rfl ?_;refine xEvs1 ?_;refine fNO l53_b rfl rfl ?_;refine xEvs0 ?_
   exact ⟨rfl,_,divmodOk (by lia) (by lia),seqR (seqR ⟨_,[],rfl,rfl⟩)⟩
  ·have P:=pow_pos' m
   rw [Nat.pow_succ] at hd
   refine xss0 ?_;refine seqN ?_;refine xss1 ?_;refine sAssignB s53_pad ?_;refine fN l53_n rfl rfl ?_;refine fI ?_
   refine ⟨rfl,_,bAnd1,seqN ?_⟩
   refine xss1 ?_;refine sIf1 ?_
   refine iVal1 (fun _ _ => rfl) ?_
   refine fN l53_pad rfl rfl ?_
   rcases Nat.mod_two_eq_zero_or_one m with q | q
   ·obtain ⟨h,rfl⟩:∃ h,m = 2 * h:=⟨m / 2,by lia⟩
    have e:((2 * h:Nat):Int) % 2 = 0:=by lia
    rw [e]
    refine ⟨_,rfl,Br.f ?_⟩
    refine xss0 ?_;refine seqN ?_
    have hh:0 < h:=by lia
    obtain ⟨h1,h2⟩:=hf53 hh hb hb'
    exact tail53 hh (by lia) ha hlt hb hb' (fun x x0 x1 => ih h x (b / 2 ^ h) (f + 7) [] (by lia) (by lia) x0 x1 h2 h1 (by lia)) (.inl ⟨rfl,rfl⟩)
   ·obtain ⟨h,rfl⟩:∃ h,m = 2 * h + 1:=⟨m / 2,by lia⟩
    have e:((2 * h + 1:Nat):Int) % 2 = 1:=by lia
    rw [e]
    refine ⟨_,rfl,Br.t ?_⟩
    have bb:=bts_of hb hb'
    have h27:(2:Nat) ^ 27 = 64 * 2 ^ 21:=by decide
    have ba:bts a ≤ 2 * (2 * h + 1):=by
     apply bts_le' ha
     have e:=pow_two_mul (2 * h + 1)
     have:b * 2 ^ (2 * h + 1) ≤ 2 ^ (2 * h + 1) * 2 ^ (2 * h + 1):=Int.mul_le_mul_of_nonneg_right (by lia) (by lia)
     lia
    refine xss1 ?_;refine sAug1 l53_a s53_a rfl rfl ?_;refine fI ?_
    refine ⟨_,iShl (k:=1) rfl (by lia),?_⟩
    refine seqN ?_;refine xss1 ?_;refine sAug1 l53_b s53_b rfl rfl ?_;refine fI ?_
    refine ⟨_,iShl (k:=1) rfl (by lia),?_⟩
    refine seqN ?_;refine xss1 ?_;refine sAug1 l53_n s53_n rfl rfl ?_;refine fI ?_
    refine ⟨_,rfl,?_⟩
    refine seqN ?_;refine xss0 ?_;refine seqN ?_
    have e2:((2 * h + 1:Nat):Int) + 1 = ((2 * (h + 1):Nat):Int):=by lia
    rw [e2]
    have p1:(2:Int) ^ 1 = 2:=by decide
    have p2:(2:Int) ^ (2 * (h + 1)) = 2 ^ (2 * h + 1) * 2:=Int.pow_succ 2 _
    rw [p1]
    have k1:a * 2 < b * 2 * 2 ^ (2 * (h + 1)):=by
     rw [p2]
     have:b * 2 * (2 ^ (2 * h + 1) * 2) = b * 2 ^ (2 * h + 1) * 4:=by rw [Int.mul_assoc,Int.mul_assoc]; congr 1; lia
     lia
    have k2:2 ^ (2 * (h + 1)) ≤ 2 * (b * 2):=by lia
    have k3:b * 2 < 2 ^ (2 * (h + 1)):=by lia
    obtain ⟨h1,h2⟩:=hf53 (by lia) k2 k3
    have z1:a * 2 / (b * 2) = a / b:=Int.mul_ediv_mul_of_pos_left a b (by lia)
    have z2:a * 2 % (b * 2) / 2 = a % b:=by
     rw [Int.mul_comm a,Int.mul_comm b,Int.mul_emod_mul_of_pos _ _ (by lia)]; lia
    exact tail53 (by lia) (by lia) (by lia) k1 k2 k3 (fun x x0 x1 => ih (h + 1) x (b * 2 / 2 ^ (h + 1)) (f + 7) [] (by lia) (by lia) x0 x1 h2 h1 (by lia)) (.inr ⟨rfl,by rw [z1,z2]⟩)
end
section
variable {G:Gl} {n:Nat} {sc:Sc} {vs:VS} {ob:OB} {K:AV → OB → Prop} {KS:AF → VS → OB → Prop}
theorem gc_len {fl:AF} {vs:VS} {ob ob':OB} (h:ob'.length = ob.length):gcN fl vs (ob'.length - ob.length) ob' = ob':=by rw [h,Nat.sub_self]; rfl
inductive kClo (r:Ev) (sc:Sc) (q:Str) (ci:Clo) (vs:VS) (ob:OB) (K:KE) (avs:List AV) (ob1:OB):Prop
 | mk (h1:ob1 = ob) (z:_) (ob2:_) (h2:callClo r sc q ci avs vs ob = some (z,ob2)) (h3:ob2.length = ob.length) (k:K z ob2):kClo r sc q ci vs ob K avs ob1
theorem gcE_len {f:FE} {z:AV} {ob2:OB} (e:f vs ob = some (z,ob2)) (h:ob2.length = ob.length):gcE f vs ob = some (z,ob2):=by
 unfold gcE
 rw [e,Option.map_some,gc_len h]
theorem eCall_l {x:Str} {args:List Expr} {i:Nat} {q:Str} {ci:Clo} {ob1:OB} {avs:List AV} {z:Option (AV × OB)} (hg:gName G sc x = none) (hl:ldIx sc x = some i) (hq:sc.clo = some q) (hv:getV vs i = some (.clo ci)) (hn:(noStar args && !args.isEmpty) = true)
  (h:evs (fun e => frzO ((ev G n).e sc e)) args vs ob = some (avs,ob1)) (e:callClo (ev G n) sc q ci avs vs ob1 = z):eCall G (ev G n) sc x args vs ob = z:=by
 unfold eCall
 rw [if_pos hn,hg]
 exact bindI hl (bindI hq (bindI (bindI hv rfl) (bindI h e)))
theorem xClo {x:Str} {p pos:Pos} {args:List Expr} {i:Nat} {q:Str} {ci:Clo} (hg:gName G sc x = none) (hl:ldIx sc x = some i) (hq:sc.clo = some q) (hv:getV vs i = some (.clo ci)) (hn:(noStar args && !args.isEmpty) = true)
  (h:runL (evs (fun e => frzO ((ev G n).e sc e)) args) vs ob (kClo (ev G n) sc q ci vs ob K)):runE ((ev G (n + 1)).e sc (.Call (.Name x p) args [] pos)) vs ob K:=by
 obtain ⟨avs,ob1,e1,rfl,z,ob2,e3,hle,k⟩:=h
 exact ⟨z,ob2,gcE_len (eCall_l hg hl hq hv hn e1 e3) hle,k⟩
noncomputable abbrev kCloR (z:AV) (ob':OB):KSt:=fun fl _ ob1 => ((fl = .ret z ∧ notClo z = true) ∨ (fl = .next ∧ z = .none)) ∧ ob1 = ob'
theorem clo_of {r:Ev} {q:Str} {ci:Clo} {avs:List AV} {z:AV} {ob':OB} {ps:List Str} {is:List Nat} {V:VS} (h1:cloPs ci.params = some ps) (h2:ps.mapM (stIx (cloSc ci q)) = some is)
  (h3:(scopeOk ci.scope && cloFree sc.names ci.scope.names && decide (avs.length = ps.length)) = true) (hV:setVs (freeVS sc.names ci.scope.names vs) is avs = V)
  (h:runS (ss (r.s (cloSc ci q)) ci.body) V ob (kCloR z ob')):callClo r sc q ci avs vs ob = some (z,ob'):=by
 obtain ⟨fl,vs1,ob1,e1,hz,rfl⟩:=h
 refine bindI h1 (bindI h2 (ifI h3 (bindI (hV ▸ e1) ?_)))
 rcases hz with ⟨rfl,hz⟩ | ⟨rfl,rfl⟩
 ·exact ifI hz rfl
 ·rfl
noncomputable abbrev kNext (vs:VS) (KS:KSt):KE:=fun _ ob1 => KS .next vs ob1
theorem sExpr {e:Expr} {p:Pos} (hc:isComp e = false) (h:runE ((ev G n).e sc e) vs ob (kNext vs KS)):runS ((ev G (n + 1)).s sc (.Expr e p)) vs ob KS:=by
 obtain ⟨_,_,e1,k⟩:=h
 exact ⟨_,_,_,ifJ (nT hc) (mapI e1 rfl),k⟩
inductive kStI2 (vs:VS) (KS:KSt) (y a:AV) (b:AV) (ob3:OB):Prop
 | mk (j:_) (m:_) (xs:_) (xs':_) (h1:a = .loc j) (h2:b = .int m) (h3:ob3[j]? = some (.list xs)) (h4:setIx xs m y = some xs') (k:KS .next vs (ob3.set j (.list xs'))):kStI2 vs KS y a b ob3
noncomputable abbrev kX (G:Gl) (n:Nat) (sc:Sc) (vs:VS) (e:Expr) (K:AV → KE):KE:=fun a ob1 => runE ((ev G n).e sc e) vs ob1 (K a)
theorem noLC {e:Expr} (h:isComp e = false):isLC e = false:=by cases e <;> first | rfl | exact absurd h.symm Bool.false_ne_true
theorem sStoreI {e o i:Expr} {ps p:Pos} (hp:isComp e = false) (h:runE (frz ((ev G n).e sc e)) vs ob (kX G n sc vs o fun y => kX G n sc vs i (kStI2 vs KS y))) :
  runS ((ev G (n + 1)).s sc (.Assign [.Subscript o i ps] e p)) vs ob KS:=by
 obtain ⟨y,ob1,e1,a,ob2,e2,b,ob3,e3,j,m,xs,xs',rfl,rfl,e4,e5,k⟩:=h
 exact ⟨_,_,_,ifJ (nT (noLC hp)) (bindI e1 (bindI e2 (bindI e3 (bindI rfl (bindI rfl (bindI (bindI e4 rfl) (mapI e5 rfl))))))),k⟩
theorem seqL {f:Stmt → FS} {rest:List Stmt} {vs':VS} {ob':OB} (hl:ob'.length = ob.length) (h:runS (ss f rest) vs' ob' KS):seqK f rest ob KS .next vs' ob':=by
 show runS (ss f rest) vs' (gcN .next vs' (ob'.length - ob.length) ob') KS
 rw [gc_len hl]; exact h
theorem seqRL {f:Stmt → FS} {rest:List Stmt} {vs':VS} {a:AV} {ob':OB} (hl:ob'.length = ob.length) (h:KS (.ret a) vs' ob'):seqK f rest ob KS (.ret a) vs' ob':=by
 show KS (.ret a) vs' (gcN (.ret a) vs' (ob'.length - ob.length) ob')
 rw [gc_len hl]; exact h
noncomputable def cloOf:Stmt → Clo
 | .FunctionDef name params body _ _ _ scope _ _ _ => ⟨name,params,body,scope⟩
 | _ => ⟨"",default,[],default⟩
noncomputable def ci67:Clo:=cloOf (innerOf (stM 9))
noncomputable def ci74:Clo:=cloOf (innerOf (stM 10))
noncomputable def sc67:Sc:=cloSc ci67 tb66.q
noncomputable def sc74:Sc:=cloSc ci74 tb73.q
theorem l670_x:ldIx sc67 "x" = some 0:=by kernel_rfl
theorem s670_x:stIx sc67 "x" = some 0:=by kernel_rfl
theorem l670_L:ldIx sc67 "L" = some 1:=by kernel_rfl
theorem s670_L:stIx sc67 "L" = some 1:=by kernel_rfl
theorem l670_R:ldIx sc67 "R" = some 2:=by kernel_rfl
theorem s670_R:stIx sc67 "R" = some 2:=by kernel_rfl
theorem l670_mid:ldIx sc67 "mid" = some 3:=by kernel_rfl
theorem s670_mid:stIx sc67 "mid" = some 3:=by kernel_rfl
theorem l670_shift:ldIx sc67 "shift" = some 4:=by kernel_rfl
theorem s670_shift:stIx sc67 "shift" = some 4:=by kernel_rfl
theorem l670_upper:ldIx sc67 "upper" = some 5:=by kernel_rfl
theorem s670_upper:stIx sc67 "upper" = some 5:=by kernel_rfl
theorem l670_lower:ldIx sc67 "lower" = some 6:=by kernel_rfl
theorem s670_lower:stIx sc67 "lower" = some 6:=by kernel_rfl
theorem l670_a_digits:ldIx sc67 "a_digits" = some 7:=by kernel_rfl
theorem l670_inner:ldIx sc67 "inner" = some 8:=by kernel_rfl
theorem l670_n:ldIx sc67 "n" = some 9:=by kernel_rfl
theorem l740_L:ldIx sc74 "L" = some 0:=by kernel_rfl
theorem s740_L:stIx sc74 "L" = some 0:=by kernel_rfl
theorem l740_R:ldIx sc74 "R" = some 1:=by kernel_rfl
theorem s740_R:stIx sc74 "R" = some 1:=by kernel_rfl
theorem l740_mid:ldIx sc74 "mid" = some 2:=by kernel_rfl
theorem s740_mid:stIx sc74 "mid" = some 2:=by kernel_rfl
theorem l740_shift:ldIx sc74 "shift" = some 3:=by kernel_rfl
theorem s740_shift:stIx sc74 "shift" = some 3:=by kernel_rfl
theorem l740_digits:ldIx sc74 "digits" = some 4:=by kernel_rfl
theorem l740_inner:ldIx sc74 "inner" = some 5:=by kernel_rfl
theorem l740_n:ldIx sc74 "n" = some 6:=by kernel_rfl
theorem u67:gName GP0 (fsc fi67) "inner" = none:=by kernel_rfl
theorem u670:gName GP0 sc67 "inner" = none:=by kernel_rfl
theorem u74:gName GP0 (fsc fi74) "inner" = none:=by kernel_rfl
theorem u740:gName GP0 sc74 "inner" = none:=by kernel_rfl
theorem def67:∀ n vs ob,(ev GP0 (n + 1)).s (fsc fi67) (innerOf (stM 9)) vs ob = some (.next,setV vs 3 (.clo ci67),ob):=by intro n vs ob; kernel_rfl
theorem def74:∀ n vs ob,(ev GP0 (n + 1)).s (fsc fi74) (innerOf (stM 10)) vs ob = some (.next,setV vs 2 (.clo ci74),ob):=by intro n vs ob; kernel_rfl
theorem ps67:cloPs ci67.params = some (["x","L","R"]:List Str):=by kernel_rfl
theorem ps74:cloPs ci74.params = some (["L","R"]:List Str):=by kernel_rfl
theorem is67:(["x","L","R"]:List Str).mapM (stIx (cloSc ci67 tb66.q)) = some [0,1,2]:=by kernel_rfl
theorem is74:(["L","R"]:List Str).mapM (stIx (cloSc ci74 tb73.q)) = some [0,1]:=by kernel_rfl
noncomputable def dval (m:Nat):List Int → Int
 | [] => 0
 | d :: ds => d + 2 ^ m * dval m ds
noncomputable def DOk (m:Nat) (ds:List Int):Prop:=∀ d ∈ ds,0 ≤ d ∧ d < 2 ^ m
theorem dval_append (m:Nat):∀ as bs:List Int,dval m (as ++ bs) = dval m as + 2 ^ (m * as.length) * dval m bs
 | [],bs => by show _ = 0 + 2 ^ (m * 0) * dval m bs; rw [Nat.mul_zero,Int.pow_zero,Int.one_mul,Int.zero_add]; rfl
 | a :: as,bs => by
  show a + 2 ^ m * dval m (as ++ bs) = a + 2 ^ m * dval m as + 2 ^ (m * (as.length + 1)) * dval m bs
  rw [dval_append m as bs,Nat.mul_add,Nat.mul_one,Int.pow_add,Int.mul_add,Int.add_assoc,Int.mul_comm (2 ^ (m * as.length)) (2 ^ m),Int.mul_assoc]
theorem dval_nonneg {m:Nat}:∀ {ds:List Int},DOk m ds → 0 ≤ dval m ds
 | [],_ => Int.le_refl _
 | d :: ds,h => by
  have h1:=(h d (List.mem_cons_self ..)).1
  have h2:=dval_nonneg fun e he => h e (List.mem_cons_of_mem _ he)
  have:=Int.mul_nonneg (Int.le_of_lt (pow_pos' m)) h2
  show 0 ≤ d + 2 ^ m * dval m ds
  lia
theorem dval_lt {m:Nat}:∀ {ds:List Int},DOk m ds → dval m ds < 2 ^ (m * ds.length)
 | [],_ => by show (0:Int) < 2 ^ (m * 0); rw [Nat.mul_zero]; decide
 | d :: ds,h => by
  have h1:=(h d (List.mem_cons_self ..)).2
  have h2:=dval_lt fun e he => h e (List.mem_cons_of_mem _ he)
  have P:=pow_pos' m
  show d + 2 ^ m * dval m ds < 2 ^ (m * (ds.length + 1))
  rw [Nat.mul_add,Nat.mul_one,Int.pow_add,Int.mul_comm (2 ^ (m * ds.length)) (2 ^ m)]
  have:=Int.mul_le_mul_of_nonneg_left (Int.add_one_le_of_lt h2) (Int.le_of_lt P)
  rw [Int.mul_add] at this
  lia
end
section
variable {ob:OB}
noncomputable def V67 (m:Nat) (x L R:Int):VS:=[some (.int x),some (.int L),some (.int R),none,none,none,none,some (.loc 0),some (.clo ci67),some (.int m)]
noncomputable def iavs (ds:List Int):List AV:=ds.map .int
theorem iavs_len {ds:List Int}:(iavs ds).length = ds.length:=by unfold iavs; simp
theorem setIx_mid {pre post:List AV} {z y:AV} {L:Int} (hL:L = pre.length) (hs:pre.length < 2 ^ 62):setIx (pre ++ z :: post) L y = some (pre ++ y :: post):=by
 subst hL
 unfold setIx
 rw [if_pos ⟨by lia,by lia⟩,if_pos (Int.natCast_nonneg _),Int.toNat_natCast,if_pos (by simp)]
 simp
theorem gIx_mid {pre post:List AV} {z:AV} {L:Int} (hL:L = pre.length) (hs:pre.length < 2 ^ 62):getIx (pre ++ z :: post) L = some z:=by
 subst hL
 unfold getIx
 rw [if_pos ⟨by lia,by lia⟩,if_pos (Int.natCast_nonneg _),Int.toNat_natCast]
 simp
noncomputable def VS67 (m:Nat) (x:Int) (L:Nat) (R:Int) (a:Nat):VS:=[some (.int x),some (.int L),some (.int R),some (.int ((L + a:Nat):Int)),some (.int ((m * a:Nat):Int)),some (.int (x / 2 ^ (m * a))),some (.int (x % 2 ^ (m * a))),some (.loc 0),some (.clo ci67),some (.int m)]
theorem preLt {α:Type} {pre zs post:List α} (h:(pre ++ zs ++ post).length ≤ 2 ^ 22):pre.length < 2 ^ 62:=by
 rw [List.length_append,List.length_append] at h
 exact Nat.lt_of_le_of_lt (Nat.le_trans (Nat.le_trans (Nat.le_add_right _ _) (Nat.le_add_right _ _)) h) (by decide)
theorem bts_nat24 {j:Nat} (hj:j ≤ 2 ^ 23):bts (j:Int) ≤ 24:=bts_le' (Int.natCast_nonneg _) (Int.lt_of_le_of_lt (Int.ofNat_le.mpr hj) (by decide))
theorem halvesN {p q a k m L:Nat} (hz:p + q ≤ 2 ^ (k + 1)) (h0:0 < p + q) (h1:¬ p + q = 1) (ha:a = (p + q) / 2) (e:p = a) (hzm:(p + q) * m ≤ 2 ^ 23) (hL:L + (p + q) ≤ 2 ^ 22) :
  (0 < p ∧ 0 < q ∧ p ≤ 2 ^ k ∧ q ≤ 2 ^ k) ∧ p * m ≤ 2 ^ 23 ∧ q * m ≤ 2 ^ 23 ∧ ¬ (L:Int) + 1 = ((L + (p + q):Nat):Int) ∧ ((L:Int) + ((L + (p + q):Nat):Int)) / 2 ^ 1 = ((L + a:Nat):Int) ∧ (((L + a:Nat):Int) - (L:Int)) * (m:Int) = ((m * a:Nat):Int) ∧
   bts (((L + a:Nat):Int) - (L:Int)) + bts (m:Int) ≤ 2 ^ 27:=by
 subst e
 rw [Nat.pow_succ] at hz
 have h2:0 < p ∧ 0 < q ∧ p ≤ 2 ^ k ∧ q ≤ 2 ^ k:=by lia
 have hm:m ≤ 2 ^ 23:=Nat.le_trans (Nat.le_mul_of_pos_left m h0) hzm
 have es:((L + p:Nat):Int) - (L:Int) = p:=by rw [Int.natCast_add,Int.add_comm,Int.add_sub_cancel]
 refine ⟨h2,Nat.le_trans (Nat.mul_le_mul_right m (Nat.le_add_right p q)) hzm,Nat.le_trans (Nat.mul_le_mul_right m (Nat.le_add_left q p)) hzm,by lia,?_,?_,?_⟩
 ·rw [show (2:Int) ^ 1 = 2 from rfl]; lia
 ·rw [es,Nat.mul_comm,Int.natCast_mul]
 ·rw [es]
  exact Nat.le_trans (Nat.add_le_add (bts_nat24 (Nat.le_trans (Nat.le_trans (Nat.le_add_right p q) (Nat.le_trans (Nat.le_add_left _ L) hL)) (by decide))) (bts_nat24 hm)) (by decide)
theorem one_of {α:Type} {l:List α} (h:l.length = 1):∃ z,l = [z]:=by
 cases l with
 | nil => cases h
 | cons z l => exact ⟨z,congrArg _ (List.eq_nil_of_length_eq_zero (Nat.succ.inj h))⟩
theorem w670_one {f m:Nat} {x:Int} {sc:Sc} {vs:VS} {pre post:List AV} {z:AV} (hpl:pre.length < 2 ^ 62) (hx:0 ≤ x) (hx':x < 2 ^ m)
  (hfree:freeVS sc.names ci67.scope.names vs = [none,none,none,none,none,none,none,some (.loc 0),some (.clo ci67),some (.int m)]) (hcf:cloFree sc.names ci67.scope.names = true) :
  ∃ ds:List Int,ds.length = 1 ∧ DOk m ds ∧ dval m ds = x ∧ callClo (ev GP0 (f + 12)) sc tb66.q ci67 [.int x,.int pre.length,.int ((pre.length + 1:Nat):Int)] vs [.list (pre ++ [z] ++ post)] = some (.none,[.list (pre ++ iavs ds ++ post)]):=by
 refine ⟨[x],rfl,fun d hd => ?_,?_,?_⟩
 ·rcases List.mem_singleton.mp hd with rfl
  exact ⟨hx,by simpa using hx'⟩
 ·show x + 2 ^ m * 0 = x
  lia
 have e0:pre ++ [z] ++ post = pre ++ z :: post:=by simp
 have e1:pre ++ iavs [x] ++ post = pre ++ AV.int x :: post:=by simp [iavs]
 rw [e0,e1]
 refine clo_of ps67 is67 (by rw [hcf]; kernel_rfl) (by rw [hfree]) ?_
 show runS _ (V67 m x pre.length ((pre.length + 1:Nat):Int)) _ _
 unfold V67
 refine xss1 ?_;refine sIf1 ?_;refine iCmp1 rfl rfl ?_;refine fB ?_;refine fN l670_L rfl rfl ?_;refine fI ?_
 refine ⟨_,bAdd,?_⟩
 refine fN l670_R rfl rfl ?_
 refine ⟨_,cEqI,?_⟩
 refine Br.yes (decide_eq_true (Int.natCast_succ _).symm) ?_;refine xss1 ?_;refine sStoreI rfl ?_;refine fN l670_x rfl rfl ?_;refine xN l670_a_digits rfl ?_;refine xN l670_L rfl ?_
 refine ⟨0,_,_,_,rfl,rfl,rfl,setIx_mid rfl hpl,seqL rfl ?_⟩
 refine xss1 ?_
 exact sRet0 (seqRL rfl (seqRL rfl ⟨.inl ⟨rfl,rfl⟩,rfl⟩))
theorem w670_run {f m a L R:Nat} {x:Int} {sc:Sc} {vs:VS} {l0 l1 l2:List AV} (hfree:freeVS sc.names ci67.scope.names vs = [none,none,none,none,none,none,none,some (.loc 0),some (.clo ci67),some (.int m)]) (hcf:cloFree sc.names ci67.scope.names = true) (hx:0 ≤ x) (hne:¬ (L:Int) + 1 = (R:Int)) (emid:((L:Int) + (R:Int)) / 2 ^ 1 = ((L + a:Nat):Int)) (esh:(((L + a:Nat):Int) - (L:Int)) * (m:Int) = ((m * a:Nat):Int))
  (hb1:bts (((L + a:Nat):Int) - (L:Int)) + bts (m:Int) ≤ 2 ^ 27) (hb2:bts (x / 2 ^ (m * a)) + m * a ≤ 2 ^ 27)
  (c1:callClo (ev GP0 (f + 10)) sc67 tb66.q ci67 [.int (x % 2 ^ (m * a)),.int L,.int ((L + a:Nat):Int)] (VS67 m x L R a) [.list l0] = some (.none,[.list l1]))
  (c2:callClo (ev GP0 (f + 10)) sc67 tb66.q ci67 [.int (x / 2 ^ (m * a)),.int ((L + a:Nat):Int),.int (R:Int)] (VS67 m x L R a) [.list l1] = some (.none,[.list l2])) :
  callClo (ev GP0 (f + 12)) sc tb66.q ci67 [.int x,.int L,.int (R:Int)] vs [.list l0] = some (.none,[.list l2]):=by
 refine clo_of ps67 is67 (by rw [hcf]; kernel_rfl) (by rw [hfree]) ?_
 show runS _ (V67 m x L (R:Int)) _ _
 unfold V67
 refine xss1 ?_;refine sIf1 ?_;refine iCmp1 rfl rfl ?_;refine fB ?_;refine fN l670_L rfl rfl ?_;refine fI ?_
 refine ⟨_,bAdd,?_⟩
 refine fN l670_R rfl rfl ?_
 refine ⟨_,cEqI,?_⟩
 refine Br.no (decide_eq_false hne) ?_;refine xss0 ?_;refine seqN ?_;refine xss1 ?_;refine sAssignB s670_mid ?_;refine fB ?_;refine fN l670_L rfl rfl ?_;refine fN l670_R rfl rfl ?_
 refine ⟨_,bAdd,?_⟩
 refine fI ?_
 refine ⟨rfl,_,bShr (k:=1) rfl,seqN ?_⟩
 rw [emid]
 refine xss1 ?_;refine sAssignB s670_shift ?_;refine fB ?_;refine fN l670_mid rfl rfl ?_;refine fN l670_L rfl rfl ?_
 refine ⟨_,bSub,?_⟩
 refine fN l670_n rfl rfl ?_
 refine ⟨rfl,_,bMul hb1,seqN ?_⟩
 rw [esh]
 refine xss1 ?_;refine sAssignB s670_upper ?_;refine fN l670_x rfl rfl ?_;refine fN l670_shift rfl rfl ?_
 refine ⟨rfl,_,bShr rfl,seqN ?_⟩
 refine xss1 ?_;refine sAssignB s670_lower ?_;refine fN l670_x rfl rfl ?_;refine fB ?_;refine fN l670_upper rfl rfl ?_;refine fN l670_shift rfl rfl ?_
 refine ⟨_,bShl rfl hb2,?_⟩
 refine ⟨rfl,_,bXorS hx,seqN ?_⟩
 refine xss1 ?_;refine sExpr rfl ?_;refine xClo u670 l670_inner rfl rfl rfl ?_;refine xEvs1 ?_;refine fNO l670_lower rfl rfl ?_;refine xEvs1 ?_;refine fNO l670_L rfl rfl ?_;refine xEvs1 ?_;refine fNO l670_mid rfl rfl ?_;refine xEvs0 ?_
 refine ⟨rfl,_,_,c1,rfl,seqL rfl ?_⟩
 refine xss1 ?_;refine sExpr rfl ?_;refine xClo u670 l670_inner rfl rfl rfl ?_;refine xEvs1 ?_;refine fNO l670_upper rfl rfl ?_;refine xEvs1 ?_;refine fNO l670_mid rfl rfl ?_;refine xEvs1 ?_;refine fNO l670_R rfl rfl ?_;refine xEvs0 ?_
 refine ⟨rfl,_,_,c2,rfl,seqL rfl ?_⟩
 exact xss0 ⟨.inr ⟨rfl,rfl⟩,rfl⟩
theorem w670:∀ (k F m:Nat) (x:Int) (sc:Sc) (vs:VS) (pre zs post:List AV),zs.length ≤ 2 ^ k → 0 < zs.length → zs.length * m ≤ 2 ^ 23 → (pre ++ zs ++ post).length ≤ 2 ^ 22 → 0 ≤ x → x < 2 ^ (m * zs.length) → 5 * k + 12 ≤ F →
  freeVS sc.names ci67.scope.names vs = [none,none,none,none,none,none,none,some (.loc 0),some (.clo ci67),some (.int m)] → cloFree sc.names ci67.scope.names = true →
  ∃ ds:List Int,ds.length = zs.length ∧ DOk m ds ∧ dval m ds = x ∧ callClo (ev GP0 F) sc tb66.q ci67 [.int x,.int pre.length,.int ((pre.length + zs.length:Nat):Int)] vs [.list (pre ++ zs ++ post)] = some (.none,[.list (pre ++ iavs ds ++ post)]):=by
 intro k
 induction k with
 | zero =>
  intro F m x sc vs pre zs post hz hz0 hzm hlen hx hx' hF hfree hcf
  obtain ⟨f,rfl⟩:=Nat.exists_eq_add_of_le' (Nat.le_trans (Nat.le_add_left 12 _) hF)
  have hpl:=preLt hlen
  have hz1:zs.length = 1:=Nat.le_antisymm hz hz0
  obtain ⟨z,rfl⟩:=one_of hz1
  exact w670_one hpl hx ((Nat.mul_one m) ▸ hx') hfree hcf
 | succ k ih =>
  intro F m x sc vs pre zs post hz hz0 hzm hlen hx hx' hF hfree hcf
  obtain ⟨f,rfl⟩:=Nat.exists_eq_add_of_le' (Nat.le_trans (Nat.le_add_left 12 _) hF)
  have hpl:=preLt hlen
  by_cases h1:zs.length = 1
  ·obtain ⟨z,rfl⟩:=one_of h1
   exact w670_one hpl hx ((Nat.mul_one m) ▸ hx') hfree hcf
  obtain ⟨a,ha⟩:∃ a,a = zs.length / 2:=⟨_,rfl⟩
  obtain ⟨z1,z2,rfl,e1⟩:∃ z1 z2,zs = z1 ++ z2 ∧ z1.length = a:=⟨zs.take a,zs.drop a,(List.take_append_drop a zs).symm,by rw [List.length_take,ha]; exact Nat.min_eq_left (Nat.div_le_self _ 2)⟩
  have hl3:pre.length + (z1.length + z2.length) + post.length ≤ 2 ^ 22:=by rw [List.length_append,List.length_append,List.length_append] at hlen; exact hlen
  rw [List.length_append] at hz hz0 hzm hx' h1 ha ⊢
  obtain ⟨⟨p0,q0,pk,qk⟩,hm1,hm2,hne,emid,esh,hb1⟩:=halvesN hz hz0 h1 ha e1 hzm (Nat.le_trans (Nat.le_add_right _ _) hl3)
  have hF':5 * k + 12 ≤ f + 10:=by lia
  have P:(0:Int) < 2 ^ (m * a):=pow_pos' (m * a)
  have hlo:0 ≤ x % 2 ^ (m * a):=Int.emod_nonneg _ (Int.ne_of_gt P)
  have hlo':x % 2 ^ (m * a) < 2 ^ (m * z1.length):=by rw [e1]; exact Int.emod_lt_of_pos _ P
  have hup:0 ≤ x / 2 ^ (m * a):=Int.ediv_nonneg hx (Int.le_of_lt P)
  have hup':x / 2 ^ (m * a) < 2 ^ (m * z2.length):=div_lt P (by rw [← Int.pow_add,← Nat.mul_add,Nat.add_comm,← e1]; exact hx')
  have hl1:(pre ++ z1 ++ (z2 ++ post)).length ≤ 2 ^ 22:=by rw [List.length_append,List.length_append,List.length_append]; exact Nat.le_trans (Nat.le_of_eq (by lia)) hl3
  obtain ⟨d1,l1,o1,v1,c1⟩:=ih (f + 10) m (x % 2 ^ (m * a)) sc67 (VS67 m x pre.length ((pre.length + (z1.length + z2.length):Nat):Int) a) pre z1 (z2 ++ post) pk p0 hm1 hl1 hlo hlo' hF' (by kernel_rfl) (by kernel_rfl)
  have el1:(pre ++ iavs d1).length = pre.length + a:=by rw [List.length_append,iavs_len,l1,e1]
  have hl2:(pre ++ iavs d1 ++ z2 ++ post).length ≤ 2 ^ 22:=by rw [List.length_append,List.length_append,el1,← e1]; exact Nat.le_trans (Nat.le_of_eq (by lia)) hl3
  obtain ⟨d2,l2,o2,v2,c2⟩:=ih (f + 10) m (x / 2 ^ (m * a)) sc67 (VS67 m x pre.length ((pre.length + (z1.length + z2.length):Nat):Int) a) (pre ++ iavs d1) z2 post qk q0 hm2 hl2 hup hup' hF' (by kernel_rfl) (by kernel_rfl)
  rw [el1,show pre.length + a + z2.length = pre.length + (z1.length + z2.length) by rw [Nat.add_assoc,← e1],List.append_assoc (pre ++ iavs d1) z2 post] at c2
  rw [e1] at c1
  refine ⟨d1 ++ d2,by rw [List.length_append,l1,l2],fun d hd => (List.mem_append.mp hd).elim (o1 d) (o2 d),?_,?_⟩
  ·rw [dval_append,v1,v2,l1,e1,Int.add_comm]; exact Int.mul_ediv_add_emod x (2 ^ (m * a))
  have ef:pre ++ iavs (d1 ++ d2) ++ post = pre ++ iavs d1 ++ iavs d2 ++ post:=by simp only [iavs,List.map_append,List.append_assoc]
  have hb2:bts (x / 2 ^ (m * a)) + m * a ≤ 2 ^ 27:=Nat.le_trans (Nat.add_le_add (Nat.le_trans (bts_le' hup hup') (Nat.mul_comm m _ ▸ hm2)) (by rw [Nat.mul_comm,← e1]; exact hm1)) (by decide)
  rw [ef,show pre ++ (z1 ++ z2) ++ post = pre ++ z1 ++ (z2 ++ post) by simp only [List.append_assoc]]
  exact w670_run hfree hcf hx hne emid esh hb1 hb2 c1 c2
end
section
variable {G:Gl} {n:Nat} {sc:Sc} {vs:VS} {ob:OB} {K:AV → OB → Prop} {KS:AF → VS → OB → Prop} {KL:List AV → OB → Prop}
inductive kAsM (op:Operator) (i:Nat) (vs:VS) (KS:KSt) (a:AV) (b:AV) (ob2:OB):Prop
 | mk (zs:_) (h1:mop op a b = some zs) (k:KS .next (setV vs i (.loc ob2.length)) (ob2 ++ [.list zs])):kAsM op i vs KS a b ob2
theorem sAssignM {x:Str} {px p bp:Pos} {l y:Expr} {op:Operator} {i:Nat} (h1:stIx sc x = some i) (h:runE (frz ((ev G n).e sc l)) vs ob (kE2 G n sc vs y (kAsM op i vs KS))):runS ((ev G (n + 1)).s sc (.Assign [.Name x px] (.BinOp l op y bp) p)) vs ob KS:=by
 obtain ⟨_,_,e1,_,_,e2,_,e3,k⟩:=h
 exact ⟨_,_,_,bindI h1 (bindI (bindI e1 (bindI e2 (by dsimp only; rw [e3]))) rfl),k⟩
theorem sAssignE {x:Str} {px p lp:Pos} {i:Nat} (h1:stIx sc x = some i) (k:KS .next (setV vs i (.loc ob.length)) (ob ++ [.list []])):runS ((ev G (n + 1)).s sc (.Assign [.Name x px] (.List [] lp) p)) vs ob KS :=
 ⟨_,_,_,bindI h1 (bindI (show eLstM (ev G n) sc [] vs ob = some (.loc ob.length,ob ++ [.list []]) from rfl) rfl),k⟩
noncomputable abbrev kLst (K:KE):List AV → OB → Prop:=fun as ob1 => (trees as = true ∧ as.length ≤ sizeLine) ∧ K (.lst as) ob1
theorem xList {es:List Expr} {p:Pos} (hn:noStar es = true) (hne:es.isEmpty = false) (h:runL (evs (fun e => frz ((ev G n).e sc e)) es) vs ob (kLst K)):runE ((ev G (n + 1)).e sc (.List es p)) vs ob K:=by
 obtain ⟨as,ob1,e1,e2,k⟩:=h
 cases es with
 | nil => cases hne
 | cons e es => exact ⟨_,ob1,ifI hn (bindI e1 (ifI e2 rfl)),k⟩
theorem bFd {x y:Int} (hy:0 < y) (hb:bts y ≤ 9000):bopF .FloorDiv (.int x) (.int y) = some (.int (x / y)):=by
 show (if y ≠ 0 ∧ Builtin.divisionGoesByPylong x y = false then some (AV.int (x.fdiv y)) else none) = _
 rw [if_pos ⟨by lia,noPylong_small hb⟩,Int.fdiv_eq_ediv_of_nonneg _ (Int.le_of_lt hy)]
theorem bMd {x y:Int} (hy:0 < y):bopF .Mod (.int x) (.int y) = some (.int (x % y)):=by
 show (if y ≠ 0 then some (AV.int (x.fmod y)) else none) = _
 rw [if_pos (by lia),Int.fmod_eq_emod_of_nonneg _ (Int.le_of_lt hy)]
theorem mRep {z:AV} {c:Nat} (h:c ≤ 2 ^ 22):mop .Mult (.lst [z]) (.int c) = some (List.replicate c z):=by
 have hs:sizeLine = 2 ^ 24:=rfl
 have e:(List.replicate c [z]).flatten = List.replicate c z:=by
  clear h
  induction c with
  | zero => rfl
  | succ c ih => rw [List.replicate_succ,List.flatten_cons,ih,List.replicate_succ]; rfl
 have h1:AV.l? (.lst [z]) = some [z]:=rfl
 have h2:AV.i? (.int c) = some (c:Int):=rfl
 unfold mop
 rw [if_neg (by decide),if_pos rfl,h1,Option.bind_some,h2,Option.bind_some,if_pos ⟨rfl,by lia,by lia,by rw [Int.toNat_natCast]; simp only [List.length_cons,List.length_nil]; lia⟩,Int.toNat_natCast,e]
theorem lenLoc {j:Nat} {zs:List AV} (h:ob[j]? = some (.list zs)) (hl:zs.length ≤ sizeLine):bfn "len" [.loc j] ob = some (.int zs.length,ob):=by
 show ((lenF (.loc j) ob).bind fun n => if n ≤ sizeLine then some (AV.int n,ob) else none) = _
 exact bindI (a:=zs.length) (mapI (a:=zs) (bindI h rfl) rfl) (if_pos hl)
theorem lenLst {zs:List AV} (hl:zs.length ≤ sizeLine):bfn "len" [.lst zs] ob = some (.int zs.length,ob):=by
 show ((lenF (.lst zs) ob).bind fun n => if n ≤ sizeLine then some (AV.int n,ob) else none) = _
 exact bindI (a:=zs.length) rfl (if_pos hl)
inductive kSub (K:KE) (a:AV) (b:AV) (ob2:OB):Prop
 | mk (i:_) (z:_) (h1:b = .int i) (h2:subsF ob2 a i = some z) (k:K z ob2):kSub K a b ob2
theorem xSubN {value:Expr} {x:Str} {px p:Pos} (h:runE ((ev G n).e sc value) vs ob (kX G n sc vs (.Name x px) (kSub K))):runE ((ev G (n + 1)).e sc (.Subscript value (.Name x px) p)) vs ob K:=by
 obtain ⟨a,ob1,e1,b,ob2,e2,i,z,rfl,e3,k⟩:=h
 exact ⟨z,ob2,show eSub (ev G n) sc value (.Name x px) vs ob = _ from ifJ (p:=isSlice (.Name x px) = true) (x:=none) Bool.false_ne_true (bindI e1 (bindI e2 (bindI rfl (mapI e3 rfl)))),k⟩
inductive kSubC (i:Int) (K:KE) (a:AV) (ob1:OB):Prop
 | mk (z:_) (h1:subsF ob1 a i = some z) (k:K z ob1):kSubC i K a ob1
theorem xSubC {value:Expr} {i:Int} {kk:Nat} {px p:Pos} (h:runE ((ev G (n + 1)).e sc value) vs ob (kSubC i K)):runE ((ev G (n + 2)).e sc (.Subscript value (.Constant (.int i) kk px) p)) vs ob K:=by
 obtain ⟨a,ob1,e1,z,e3,k⟩:=h
 exact ⟨z,ob1,show eSub (ev G (n + 1)) sc value (.Constant (.int i) kk px) vs ob = _ from ifJ (p:=isSlice (.Constant (.int i) kk px) = true) (x:=none) Bool.false_ne_true (bindI e1 (bindI (a:=(.int i,ob1)) rfl (bindI rfl (mapI e3 rfl)))),k⟩
theorem bApp {j:Nat} {ys:List AV} {y:AV} {ob2:OB} (h:ob2[j]? = some (.list ys)) (h5:y.tree = true) (h6:ys.length ≤ sizeLine):mfn G "list.append" [.loc j,y] ob2 = some (.none,ob2.set j (.list (ys ++ [y]))):=by
 have hf:mfn G "list.append" = bAppend:=by unfold mfn; simp
 rw [hf]
 show ((ob2[j]?.bind AO.l?).bind fun xs => if y.tree = true ∧ xs.length ≤ sizeLine then some (AV.none,ob2.set j (.list (xs ++ [y]))) else none) = _
 exact bindI (a:=ys) (bindI h rfl) (if_pos ⟨h5,h6⟩)
inductive kApp (ob ob1:OB) (K:KE) (a:AV) (y:AV) (ob2:OB):Prop
 | mk (j:_) (xs:_) (ys:_) (h1:a = .loc j) (h2:ob1[j]? = some (.list xs)) (h3:ob2[j]? = some (.list ys)) (h4:y.tree = true) (h5:ys.length ≤ sizeLine) (h6:ob2.length = ob.length) (k:K .none (ob2.set j (.list (ys ++ [y])))):kApp ob ob1 K a y ob2
noncomputable abbrev kApp0 (G:Gl) (n:Nat) (sc:Sc) (vs:VS) (e:Expr) (ob:OB) (K:KE):KE:=fun a ob1 => runE (frz ((ev G n).e sc e)) vs ob1 (kApp ob ob1 K a)
theorem xAppend {o e:Expr} {apos pos:Pos} (hb:isBareCall o = false) (hs:noStar [e] = true) (hl:(apos.endLine == pos.line) = true) (hu:G.user "append" = false)
  (h:runE ((ev G n).e sc o) vs ob (kApp0 G n sc vs e ob K)) :
  runE ((ev G (n + 1)).e sc (.Call (.Attribute o "append" apos) [e] [] pos)) vs ob K:=by
 obtain ⟨a,ob1,e1,y,ob2,e2,j,xs,ys,rfl,e3,e4,e5,e6,e7,k⟩:=h
 have hc:methOk o [e] [] apos pos = true:=by unfold methOk; rw [hb,hl,hs]; rfl
 exact ⟨.none,_,gcE_len ((eMeth_b hc hu).trans (eMethB_y (T:="list") (id:="list.append") (by decide +kernel) e1 (bindI (bindI e3 rfl) rfl) (by decide +kernel) (bindI e2 rfl) (bApp e4 e5 e6))) (by rw [List.length_set]; exact e7),k⟩
inductive kRev (ob:OB) (K:KE) (a:AV) (ob1:OB):Prop
 | mk (j:_) (xs:_) (h1:a = .loc j) (h2:ob1[j]? = some (.list xs)) (h3:xs.length ≤ sizeLine) (h4:ob1.length = ob.length) (k:K .none (ob1.set j (.list xs.reverse))):kRev ob K a ob1
theorem bRev {j:Nat} {xs:List AV} {ob1:OB} (h:ob1[j]? = some (.list xs)) (h6:xs.length ≤ sizeLine):mfn G "list.reverse" [.loc j] ob1 = some (.none,ob1.set j (.list xs.reverse)):=by
 have hf:mfn G "list.reverse" = bReverse:=by unfold mfn; simp
 rw [hf]
 show ((ob1[j]?.bind AO.l?).bind fun xs => if xs.length ≤ sizeLine then some (AV.none,ob1.set j (.list xs.reverse)) else none) = _
 exact bindI (a:=xs) (bindI h rfl) (if_pos h6)
theorem xReverse {o:Expr} {apos pos:Pos} (hb:isBareCall o = false) (hl:(apos.endLine == pos.line) = true) (hu:G.user "reverse" = false)
  (h:runE ((ev G n).e sc o) vs ob (kRev ob K)) :
  runE ((ev G (n + 1)).e sc (.Call (.Attribute o "reverse" apos) [] [] pos)) vs ob K:=by
 obtain ⟨a,ob1,e1,j,xs,rfl,e3,e6,e7,k⟩:=h
 have hc:methOk o [] [] apos pos = true:=by unfold methOk; rw [hb,hl]; rfl
 exact ⟨.none,_,gcE_len ((eMeth_b hc hu).trans (eMethB_y (T:="list") (id:="list.reverse") (by decide +kernel) e1 (bindI (bindI e3 rfl) rfl) (by decide +kernel) rfl (bRev e3 e6))) (by rw [List.length_set]; exact e7),k⟩
noncomputable abbrev kForO (G:Gl) (n:Nat) (sc:Sc) (tg:TgK) (body orelse:List Stmt) (vs:VS) (KS:KSt):List AV → OB → Prop:=fun xs ob1 => runS (forF tg (ss ((ev G n).s sc) body) (ss ((ev G n).s sc) orelse) xs) vs ob1 KS
theorem sFor_n {target iter:Expr} {body orelse:List Stmt} {tg:TgK} {z:Option (AF × VS × OB)} (h1:eTg sc target = some tg) (h2:isSet iter = false) (h3:eIt0 (ev G n) sc iter vs ob = none) {xs:List AV} {ob1:OB} (e1:eIt G (ev G n) sc iter vs ob = some (xs,ob1)) (e2:forF tg (ss ((ev G n).s sc) body) (ss ((ev G n).s sc) orelse) xs vs ob1 = z) :
  sFor G (ev G n) sc target iter body orelse vs ob = z:=ifJ (nT h2) (bindI h1 (by rw [h3]; exact bindI e1 e2))
theorem sForO {target iter:Expr} {body orelse:List Stmt} {p:Pos} {tg:TgK} (h1:eTg sc target = some tg) (h2:isSet iter = false) (h3:it0K iter = .other) (h:runL (eIt G (ev G n) sc iter) vs ob (kForO G n sc tg body orelse vs KS)) :
  runS ((ev G (n + 1)).s sc (.For target iter body orelse p)) vs ob KS:=by
 obtain ⟨xs,ob1,e1,fl,vs2,ob2,e2,k⟩:=h
 exact ⟨fl,vs2,ob2,sFor_n h1 h2 (by unfold eIt0; rw [h3]) e1 e2,k⟩
theorem xFor0 {tg:TgK} {body orelse:FS} (h:runS orelse vs ob KS):runS (forF tg body orelse []) vs ob KS:=h
noncomputable abbrev kFor1 (tg:TgK) (body orelse:FS) (xs:List AV) (KS:KSt):KSt:=fun fl vs2 ob2 => fl = .next ∧ runS (forF tg body orelse xs) vs2 ob2 KS
theorem xFor1 {tg:TgK} {body orelse:FS} {x:AV} {xs:List AV} {vs1:VS} (h1:tgV tg x vs = some vs1) (h:runS body vs1 ob (kFor1 tg body orelse xs KS)):runS (forF tg body orelse (x :: xs)) vs ob KS:=by
 obtain ⟨fl,vs2,ob2,e2,rfl,a,vs3,ob3,e3,k⟩:=h
 exact ⟨a,vs3,ob3,bindI h1 (bindI e2 e3),k⟩
noncomputable def itF (r:Ev) (sc:Sc) (e:Expr) (k:ItK):FL :=
 match k with
 | .range1 a => itR1 (r.e sc a)
 | .range2 a b => itR2 (r.e sc a) (r.e sc b)
 | .rev a => itRev (r.e sc a)
 | .other => itG (r.e sc e)
theorem eIt_k {r:Ev} {iter:Expr} {k:ItK} (h:itK G sc iter = k):eIt G r sc iter = itF r sc iter k:=by
 subst h
 unfold eIt itF
 cases itK G sc iter <;> rfl
inductive kItV (KL:List AV → OB → Prop) (b:AV) (ob1:OB):Prop
 | mk (xs:_) (h1:b = .lst xs) (h2:xs.length ≤ sizeLine) (k:KL xs.reverse ob1):kItV KL b ob1
theorem eIt_rev {iter a:Expr} (h:itK G sc iter = .rev a) (h1:runE (frz ((ev G n).e sc a)) vs ob (kItV KL)):runL (eIt G (ev G n) sc iter) vs ob KL:=by
 obtain ⟨b,ob1,e1,xs,rfl,e2,k⟩:=h1
 exact ⟨_,ob1,by rw [eIt_k h]; exact bindI e1 (bindI rfl (ifI e2 rfl)),k⟩
inductive kItR (KL:List AV → OB → Prop) (b:AV) (ob1:OB):Prop
 | mk (m:Int) (h1:b = .int m) (h2:rangeOk 0 m = true) (k:KL (rngAV 0 m) ob1):kItR KL b ob1
theorem eIt_r1 {iter a:Expr} (h:itK G sc iter = .range1 a) (h1:runE ((ev G n).e sc a) vs ob (kItR KL)):runL (eIt G (ev G n) sc iter) vs ob KL:=by
 obtain ⟨b,ob1,e1,m,rfl,e2,k⟩:=h1
 exact ⟨_,ob1,by rw [eIt_k h]; exact bindI e1 (bindI rfl (ifI e2 rfl)),k⟩
inductive kItO (KL:List AV → OB → Prop) (b:AV) (ob1:OB):Prop
 | mk (xs:_) (h1:(b = .lst xs ∨ b = .tup xs)) (h2:xs.length ≤ sizeLine) (k:KL xs ob1):kItO KL b ob1
theorem eIt_o {iter:Expr} (h:itK G sc iter = .other) (h1:runE (frz ((ev G n).e sc iter)) vs ob (kItO KL)):runL (eIt G (ev G n) sc iter) vs ob KL:=by
 obtain ⟨b,ob1,e1,xs,hb,e2,k⟩:=h1
 refine ⟨_,ob1,?_,k⟩
 rw [eIt_k h]
 rcases hb with rfl | rfl
 ·exact bindI e1 (mapI (ifI e2 rfl) rfl)
 ·exact bindI e1 (mapI (ifI e2 rfl) rfl)
end
section
variable {ob:OB}
theorem sz24:sizeLine = 2 ^ 24:=rfl
theorem w67 {F m:Nat} {a:Int} (ha:0 ≤ a) (hb:bts a ≤ 2 ^ 21) (hm:0 < m) (hm':m ≤ 2 ^ 21) (hF:130 ≤ F) :
  ∃ ds:List Int,DOk m ds ∧ dval m ds = a ∧ ds.length ≤ 2 ^ 21 ∧ ds.length * m ≤ bts a + m ∧ callI (ev GP0 F) fi67 [.int a,.int m] ob = some (.lst (iavs ds),ob):=by
 obtain ⟨f,rfl⟩:=Nat.exists_eq_add_of_le' hF
 obtain ⟨c,hc⟩:∃ c,c = (bts a + m - 1) / m:=⟨_,rfl⟩
 have hcm:c * m ≤ bts a + m - 1:=by rw [hc]; exact Nat.div_mul_le_self _ _
 have hcm':bts a ≤ c * m:=by
  have:=Nat.lt_mul_div_succ (bts a + m - 1) hm
  rw [← hc,Nat.mul_add,Nat.mul_comm] at this
  lia
 have hc1:c ≤ bts a:=by
  apply Nat.le_of_lt_succ
  rw [hc]
  apply Nat.div_lt_of_lt_mul
  have:1 * bts a ≤ m * bts a:=Nat.mul_le_mul_right _ hm
  rw [Nat.mul_succ]
  lia
 have hint:((bts a:Nat):Int) + (m:Int) - 1 = ((bts a + m - 1:Nat):Int):=by lia
 have hcz:((bts a + m - 1:Nat):Int) / (m:Int) = (c:Int):=by rw [hc]; rfl
 have hbm:bts (m:Int) ≤ 9000:=by
  have:bts (m:Int) ≤ 24:=bts_le' (Int.natCast_nonneg _) (by rw [show (2:Int) ^ 24 = 16777216 by decide]; lia)
  lia
 have hV:setVs (vs₀ fi67.fd) fi67.is [.int a,.int m] = [some (.int a),some (.int m),none,none,none]:=by kernel_rfl
 by_cases h0:a = 0
 ·subst h0
  have hb0:bts 0 = 0:=by decide
  have hc0:c = 0:=by lia
  subst hc0
  refine ⟨[],(fun _ h => nomatch h),rfl,by simp,by simp,callI_of ⟨by rfl,by rfl,by rfl,by rfl⟩ ?_⟩
  rw [hV]
  refine xss1 ?_;refine sAssignM s67_a_digits ?_;refine xFrz ?_;refine xList rfl rfl ?_;refine xEvs1 ?_;refine fI ?_;refine xEvs0 ?_
  refine ⟨⟨rfl,by decide⟩,_,_,rfl,?_⟩
  refine fB ?_;refine fB ?_;refine fB ?_;refine xFrz ?_;refine xBits rfl rfl rfl ?_;refine xN l67_a rfl ?_
  refine ⟨_,rfl,rfl,?_⟩
  refine ⟨_,_,rfl,?_⟩
  refine fN l67_n rfl rfl ?_
  refine ⟨_,bAdd,?_⟩
  refine fI ?_
  refine ⟨_,bSub,?_⟩
  refine fN l67_n rfl rfl ?_
  refine ⟨_,bFd (by lia) hbm,?_⟩
  refine ⟨_,by rw [hint,hcz]; exact mRep (by lia),seqNg (by rfl) ?_⟩
  refine xss1 ?_
  refine rS (def67 _ _ _) (seqN ?_)
  refine xss1 ?_;refine sIf1 ?_
  refine iVal1 (fun _ _ => rfl) ?_
  refine fN l67_a rfl rfl ?_
  refine ⟨_,rfl,Br.f ?_⟩
  refine xss0 ?_;refine seqN ?_;refine xss1 ?_;refine sRet1 (.inl rfl) ?_;refine xN l67_a_digits rfl ?_
  exact seqR ⟨_,_,rfl,rfl⟩
 ·have hpos:=bts_pos h0
  have hc0:0 < c:=by
   apply Nat.pos_of_ne_zero
   intro q; rw [q] at hcm'; lia
  have hx:a < 2 ^ (m * (List.replicate c (AV.int 0)).length):=by
   rw [List.length_replicate,Nat.mul_comm]
   exact lt_bts' hcm'
  obtain ⟨ds,l1,l2,l3,l4⟩:=w670 21 (f + 127) m a (fsc fi67) [some (.int a),some (.int m),some (.loc 0),some (.clo ci67),none] [] (List.replicate c (.int 0)) [] (by rw [List.length_replicate]; lia) (by rw [List.length_replicate]; lia) (by rw [List.length_replicate]; lia) (by simp; lia) ha hx (by lia) (by kernel_rfl) (by kernel_rfl)
  rw [List.length_replicate] at l1 l4
  refine ⟨ds,l2,l3,by lia,by rw [l1]; lia,callI_of ⟨by rfl,by rfl,by rfl,by rfl⟩ ?_⟩
  rw [hV]
  refine xss1 ?_;refine sAssignM s67_a_digits ?_;refine xFrz ?_;refine xList rfl rfl ?_;refine xEvs1 ?_;refine fI ?_;refine xEvs0 ?_
  refine ⟨⟨rfl,by decide⟩,_,_,rfl,?_⟩
  refine fB ?_;refine fB ?_;refine fB ?_;refine xFrz ?_;refine xBits rfl rfl rfl ?_;refine xN l67_a rfl ?_
  refine ⟨_,rfl,rfl,?_⟩
  refine ⟨_,_,rfl,?_⟩
  refine fN l67_n rfl rfl ?_
  refine ⟨_,bAdd,?_⟩
  refine fI ?_
  refine ⟨_,bSub,?_⟩
  refine fN l67_n rfl rfl ?_
  refine ⟨_,bFd (by lia) hbm,?_⟩
  refine ⟨_,by rw [hint,hcz]; exact mRep (by lia),seqNg (by rfl) ?_⟩
  refine xss1 ?_
  refine rS (def67 _ _ _) (seqN ?_)
  refine xss1 ?_;refine sIf1 ?_
  refine iVal1 (fun _ _ => rfl) ?_
  refine fN l67_a rfl rfl ?_
  refine ⟨_,rfl,Br.yes (by simpa using h0) ?_⟩
  refine xss1 ?_;refine sExpr rfl ?_;refine xClo u67 l67_inner rfl rfl rfl ?_;refine xEvs1 ?_;refine fNO l67_a rfl rfl ?_;refine xEvs1 ?_;refine fIO ?_;refine xEvs1 ?_;refine xFrzO ?_;refine xCallL g67_len rfl rfl ?_;refine xEvs1 ?_;refine xN l67_a_digits rfl ?_;refine xEvs0 ?_
  refine ⟨rfl,_,lenLoc rfl (by rw [List.length_replicate,sz24]; lia),_,_,rfl,?_⟩
  refine xEvs0 ?_
  rw [List.length_replicate]
  have l5:callClo (ev GP0 (f + 127)) (fsc fi67) tb66.q ci67 [.int a,.int 0,.int c] [some (.int a),some (.int m),some (.loc 0),some (.clo ci67),none] [.list (List.replicate c (.int 0))] = some (.none,[.list (iavs ds)]):=by
   have:=l4
   simp only [List.length_nil,Nat.zero_add,List.nil_append,List.append_nil] at this
   exact this
  refine ⟨rfl,_,_,l5,rfl,seqL rfl ?_⟩
  refine xss0 ?_;refine seqL rfl ?_;refine xss1 ?_;refine sRet1 (.inl rfl) ?_;refine xN l67_a_digits rfl ?_
  exact seqR ⟨_,_,rfl,rfl⟩
end
section
variable {ob:OB}
noncomputable def V74 (m:Nat) (xs:List AV) (L R:Int):VS:=[some (.int L),some (.int R),none,none,some (.lst xs),some (.clo ci74),some (.int m)]
theorem subsLst {xs:List AV} {i:Int}:subsF ob (.lst xs) i = getIx xs i:=rfl
theorem iavs_app (a b:List Int):iavs (a ++ b) = iavs a ++ iavs b:=by unfold iavs; simp
noncomputable def VS74 (m:Nat) (xs:List AV) (L:Nat) (R:Int) (a:Nat):VS:=[some (.int L),some (.int R),some (.int ((L + a:Nat):Int)),some (.int ((m * a:Nat):Int)),some (.lst xs),some (.clo ci74),some (.int m)]
theorem w740_one {f m:Nat} {sc:Sc} {vs:VS} {pre post:List Int} {z:Int} (hpl:pre.length < 2 ^ 62) (hfree:freeVS sc.names ci74.scope.names vs = [none,none,none,none,some (.lst (iavs (pre ++ [z] ++ post))),some (.clo ci74),some (.int m)]) (hcf:cloFree sc.names ci74.scope.names = true) :
  callClo (ev GP0 (f + 12)) sc tb73.q ci74 [.int pre.length,.int ((pre.length + 1:Nat):Int)] vs [] = some (.int (dval m [z]),[]):=by
 have e0:iavs (pre ++ [z] ++ post) = iavs pre ++ AV.int z :: iavs post:=by simp [iavs]
 have hpl:(iavs pre).length < 2 ^ 62:=by rw [iavs_len]; exact hpl
 have ez:dval m [z] = z:=by show z + 2 ^ m * 0 = z; lia
 rw [e0] at hfree
 rw [ez]
 refine clo_of ps74 is74 (by rw [hcf]; kernel_rfl) (by rw [hfree]) ?_
 show runS _ (V74 m (iavs pre ++ AV.int z :: iavs post) pre.length ((pre.length + 1:Nat):Int)) _ _
 unfold V74
 refine xss1 ?_;refine sIf1 ?_;refine iCmp1 rfl rfl ?_;refine fB ?_;refine fN l740_L rfl rfl ?_;refine fI ?_
 refine ⟨_,bAdd,?_⟩
 refine fN l740_R rfl rfl ?_
 refine ⟨_,cEqI,?_⟩
 refine Br.yes (decide_eq_true (Int.natCast_succ _).symm) ?_;refine xss1 ?_;refine sRet1 (.inl rfl) ?_;refine xSubN ?_;refine xN l740_digits rfl ?_;refine xN l740_L rfl ?_
 exact ⟨_,_,rfl,subsLst.trans (gIx_mid (by rw [iavs_len]) hpl),seqRL rfl (seqRL rfl ⟨.inl ⟨rfl,rfl⟩,rfl⟩)⟩
theorem w740_run {f m a L R:Nat} {sc:Sc} {vs:VS} {xs:List AV} {x y:Int} (hfree:freeVS sc.names ci74.scope.names vs = [none,none,none,none,some (.lst xs),some (.clo ci74),some (.int m)]) (hcf:cloFree sc.names ci74.scope.names = true) (hne:¬ (L:Int) + 1 = (R:Int)) (emid:((L:Int) + (R:Int)) / 2 ^ 1 = ((L + a:Nat):Int)) (esh:(((L + a:Nat):Int) - (L:Int)) * (m:Int) = ((m * a:Nat):Int))
  (hb1:bts (((L + a:Nat):Int) - (L:Int)) + bts (m:Int) ≤ 2 ^ 27) (hb2:bts y + m * a ≤ 2 ^ 27)
  (c1:callClo (ev GP0 (f + 9)) sc74 tb73.q ci74 [.int L,.int ((L + a:Nat):Int)] (VS74 m xs L R a) [] = some (.int x,[]))
  (c2:callClo (ev GP0 (f + 8)) sc74 tb73.q ci74 [.int ((L + a:Nat):Int),.int (R:Int)] (VS74 m xs L R a) [] = some (.int y,[])) :
  callClo (ev GP0 (f + 12)) sc tb73.q ci74 [.int L,.int (R:Int)] vs [] = some (.int (y * 2 ^ (m * a) + x),[]):=by
 refine clo_of ps74 is74 (by rw [hcf]; kernel_rfl) (by rw [hfree]) ?_
 show runS _ (V74 m xs L (R:Int)) _ _
 unfold V74
 refine xss1 ?_;refine sIf1 ?_;refine iCmp1 rfl rfl ?_;refine fB ?_;refine fN l740_L rfl rfl ?_;refine fI ?_
 refine ⟨_,bAdd,?_⟩
 refine fN l740_R rfl rfl ?_
 refine ⟨_,cEqI,?_⟩
 refine Br.no (decide_eq_false hne) ?_;refine xss0 ?_;refine seqN ?_;refine xss1 ?_;refine sAssignB s740_mid ?_;refine fB ?_;refine fN l740_L rfl rfl ?_;refine fN l740_R rfl rfl ?_
 refine ⟨_,bAdd,?_⟩
 refine fI ?_
 refine ⟨rfl,_,bShr (k:=1) rfl,seqN ?_⟩
 rw [emid]
 refine xss1 ?_;refine sAssignB s740_shift ?_;refine fB ?_;refine fN l740_mid rfl rfl ?_;refine fN l740_L rfl rfl ?_
 refine ⟨_,bSub,?_⟩
 refine fN l740_n rfl rfl ?_
 refine ⟨rfl,_,bMul hb1,seqN ?_⟩
 rw [esh]
 refine xss1 ?_;refine sRet1 (.inr ⟨_,_,_,_,rfl⟩) ?_;refine xB ?_;refine fB ?_;refine xFrz ?_;refine xClo u740 l740_inner rfl rfl rfl ?_;refine xEvs1 ?_;refine fNO l740_mid rfl rfl ?_;refine xEvs1 ?_;refine fNO l740_R rfl rfl ?_;refine xEvs0 ?_
 refine ⟨rfl,_,_,c2,rfl,_,_,rfl,?_⟩
 refine fN l740_shift rfl rfl ?_
 refine ⟨_,bShl rfl hb2,?_⟩
 refine xFrz ?_;refine xClo u740 l740_inner rfl rfl rfl ?_;refine xEvs1 ?_;refine fNO l740_L rfl rfl ?_;refine xEvs1 ?_;refine fNO l740_mid rfl rfl ?_;refine xEvs0 ?_
 refine ⟨rfl,_,_,c1,rfl,_,_,rfl,?_⟩
 exact ⟨_,bAdd,seqRL rfl ⟨.inl ⟨rfl,rfl⟩,rfl⟩⟩
theorem w740:∀ (k F m:Nat) (sc:Sc) (vs:VS) (pre ds post:List Int),ds.length ≤ 2 ^ k → 0 < ds.length → ds.length * m ≤ 2 ^ 23 → (pre ++ ds ++ post).length ≤ 2 ^ 22 → DOk m ds → 5 * k + 12 ≤ F →
  freeVS sc.names ci74.scope.names vs = [none,none,none,none,some (.lst (iavs (pre ++ ds ++ post))),some (.clo ci74),some (.int m)] → cloFree sc.names ci74.scope.names = true →
  callClo (ev GP0 F) sc tb73.q ci74 [.int pre.length,.int ((pre.length + ds.length:Nat):Int)] vs [] = some (.int (dval m ds),[]):=by
 intro k
 induction k with
 | zero =>
  intro F m sc vs pre ds post hz hz0 hzm hlen hx hF hfree hcf
  obtain ⟨f,rfl⟩:=Nat.exists_eq_add_of_le' (Nat.le_trans (Nat.le_add_left 12 _) hF)
  have hpl:=preLt hlen
  obtain ⟨z,rfl⟩:=one_of (Nat.le_antisymm hz hz0)
  exact w740_one hpl hfree hcf
 | succ k ih =>
  intro F m sc vs pre ds post hz hz0 hzm hlen hx hF hfree hcf
  obtain ⟨f,rfl⟩:=Nat.exists_eq_add_of_le' (Nat.le_trans (Nat.le_add_left 12 _) hF)
  have hpl:=preLt hlen
  by_cases h1:ds.length = 1
  ·obtain ⟨z,rfl⟩:=one_of h1
   exact w740_one hpl hfree hcf
  obtain ⟨a,ha⟩:∃ a,a = ds.length / 2:=⟨_,rfl⟩
  obtain ⟨z1,z2,rfl,e1⟩:∃ z1 z2,ds = z1 ++ z2 ∧ z1.length = a:=⟨ds.take a,ds.drop a,(List.take_append_drop a ds).symm,by rw [List.length_take,ha]; exact Nat.min_eq_left (Nat.div_le_self _ 2)⟩
  have o1:DOk m z1:=fun d hd => hx d (List.mem_append_left _ hd)
  have o2:DOk m z2:=fun d hd => hx d (List.mem_append_right _ hd)
  have hv:dval m (z1 ++ z2) = dval m z2 * 2 ^ (m * a) + dval m z1:=by rw [dval_append,e1,Int.mul_comm,Int.add_comm]
  rw [hv]
  have ez1:pre ++ (z1 ++ z2) ++ post = pre ++ z1 ++ (z2 ++ post):=by simp only [List.append_assoc]
  have ez2:pre ++ (z1 ++ z2) ++ post = (pre ++ z1) ++ z2 ++ post:=by simp only [List.append_assoc]
  have hl3:pre.length + (z1.length + z2.length) + post.length ≤ 2 ^ 22:=by rw [List.length_append,List.length_append,List.length_append] at hlen; exact hlen
  rw [List.length_append] at hz hz0 hzm h1 ha ⊢
  obtain ⟨⟨p0,q0,pk,qk⟩,hm1,hm2,hne,emid,esh,hb1⟩:=halvesN hz hz0 h1 ha e1 hzm (Nat.le_trans (Nat.le_add_right _ _) hl3)
  have hF1:5 * k + 12 ≤ f + 9:=by lia
  have hF2:5 * k + 12 ≤ f + 8:=by lia
  have c1:=ih (f + 9) m sc74 (VS74 m (iavs (pre ++ (z1 ++ z2) ++ post)) pre.length ((pre.length + (z1.length + z2.length):Nat):Int) a) pre z1 (z2 ++ post) pk p0 hm1 (by rw [← ez1]; exact hlen) o1 hF1 (by rw [← ez1]; kernel_rfl) (by kernel_rfl)
  have c2:=ih (f + 8) m sc74 (VS74 m (iavs (pre ++ (z1 ++ z2) ++ post)) pre.length ((pre.length + (z1.length + z2.length):Nat):Int) a) (pre ++ z1) z2 post qk q0 hm2 (by rw [← ez2]; exact hlen) o2 hF2 (by rw [← ez2]; kernel_rfl) (by kernel_rfl)
  rw [show (pre ++ z1).length = pre.length + a by rw [List.length_append,e1],show pre.length + a + z2.length = pre.length + (z1.length + z2.length) by rw [Nat.add_assoc,← e1]] at c2
  rw [e1] at c1
  have hb2:bts (dval m z2) + m * a ≤ 2 ^ 27:=Nat.le_trans (Nat.add_le_add (Nat.le_trans (bts_le' (dval_nonneg o2) (dval_lt o2)) (Nat.mul_comm m _ ▸ hm2)) (by rw [Nat.mul_comm,← e1]; exact hm1)) (by decide)
  exact w740_run hfree hcf hne emid esh hb1 hb2 c1 c2
theorem w74 {F m:Nat} {ds:List Int} (hd:DOk m ds) (hl:ds.length ≤ 2 ^ 21) (hdm:ds.length * m ≤ 2 ^ 23) (hF:130 ≤ F):callI (ev GP0 F) fi74 [.lst (iavs ds),.int m] ob = some (.int (dval m ds),ob):=by
 obtain ⟨f,rfl⟩:=Nat.exists_eq_add_of_le' hF
 have hV:setVs (vs₀ fi74.fd) fi74.is [.lst (iavs ds),.int m] = [some (.lst (iavs ds)),some (.int m),none,none]:=by kernel_rfl
 have hsl:(iavs ds).length ≤ sizeLine:=by rw [iavs_len,sz24]; lia
 refine callI_of ⟨by rfl,by rfl,by rfl,by rfl⟩ ?_
 rw [hV]
 refine xss1 ?_
 refine rS (def74 _ _ _) (seqN ?_)
 refine xss1 ?_;refine sRet1 (.inl rfl) ?_;refine xIfE ?_
 refine iVal1 (fun _ _ => rfl) ?_
 refine fN l74_digits rfl rfl ?_
 refine ⟨_,by show (if (iavs ds).length ≤ sizeLine then some (!(iavs ds).isEmpty) else none) = _; rw [if_pos hsl],?_⟩
 cases ds with
 | nil =>
  refine Br.f ?_;refine xInt ?_
  exact seqR ⟨_,_,rfl,rfl⟩
 | cons d ds =>
  refine Br.t ?_
  have c:=w740 21 (f + 127) m (fsc fi74) [some (.lst (iavs (d :: ds))),some (.int m),some (.clo ci74),none] [] (d :: ds) [] (by lia) (by simp) hdm (by simp at *; lia) hd (by lia) (by rw [List.nil_append,List.append_nil]; kernel_rfl) (by kernel_rfl)
  have c':callClo (ev GP0 (f + 127)) (fsc fi74) tb73.q ci74 [.int 0,.int (iavs (d :: ds)).length] [some (.lst (iavs (d :: ds))),some (.int m),some (.clo ci74),none] [] = some (.int (dval m (d :: ds)),[]):=by
   rw [iavs_len]
   simp only [List.length_nil,Nat.zero_add] at c
   exact c
  refine xClo u74 l74_inner rfl rfl rfl ?_;refine xEvs1 ?_;refine fIO ?_;refine xEvs1 ?_;refine xFrzO ?_;refine xCallL g74_len rfl rfl ?_;refine xEvs1 ?_;refine xN l74_digits rfl ?_;refine xEvs0 ?_
  refine ⟨rfl,_,lenLst hsl,_,_,rfl,?_⟩
  refine xEvs0 ?_
  exact ⟨rfl,_,_,c',rfl,seqR ⟨_,_,rfl,rfl⟩⟩
end
section
set_option backward.match.sparseCases false
section
variable {G:Gl} {n:Nat} {sc:Sc} {vs:VS} {ob:OB} {K:AV → OB → Prop}
inductive kCI2 (G:Gl) (n:Nat) (fi:FI) (ob:OB) (K:KE) (avs:List AV) (ob1:OB):Prop
 | mk (h1:trees avs = true) (h2:ob1.length = ob.length) (z:_) (h3:callI (ev G n) fi avs ob1 = some (z,ob1)) (k:K z ob1):kCI2 G n fi ob K avs ob1
theorem xCallI2 {x:Str} {p pos:Pos} {args:List Expr} {a:Addr} {fi:FI} (hg:gName G sc x = some (.cst (.ref a))) (hi:G.init a = none) (hf:G.fn a = some fi) (hn:(noStar args && !args.isEmpty) = true)
  (h:runL (evs (fun e => frzO ((ev G n).e sc e)) args) vs ob (kCI2 G n fi ob K)):runE ((ev G (n + 1)).e sc (.Call (.Name x p) args [] pos)) vs ob K:=by
 obtain ⟨avs,ob1,e1,e2,hl,z,e3,k⟩:=h
 exact ⟨z,ob1,gcE_len (eCall_c hg hn (by rw [evs_f (plain_f hi)]; exact e1) ((callV_f hi hf e2).trans e3)) hl,k⟩
theorem isTy_of {T:String} {o:Option AV} (h:o = some (.cst (.type T))):isTy T o = true:=by subst h; exact beq_self_eq_true (some T)
theorem isTy_no {T U:String} {o:Option AV} (h:o = some (.cst (.type U))) (hn:(some U == some T) = false):¬ isTy T o = true:=by subst h; exact nT hn
theorem itRev1 {x:Str} {p pos:Pos} {a:Expr} (hs:isStar a = false) (hg:gName G sc x = some (.cst (.type "reversed"))):itK G sc (.Call (.Name x p) [a] [] pos) = .rev a :=
 show itN G sc x [a] = _ from (if_neg (nT hs)).trans ((if_neg (isTy_no hg (by decide))).trans (if_pos (isTy_of hg)))
theorem itRng1 {x:Str} {p pos:Pos} {a:Expr} (hs:isStar a = false) (hg:gName G sc x = some (.cst (.type "range"))):itK G sc (.Call (.Name x p) [a] [] pos) = .range1 a :=
 show itN G sc x [a] = _ from (if_neg (nT hs)).trans (if_pos (isTy_of hg))
end
variable {ob:OB}
noncomputable def forBody:Stmt → List Stmt
 | .For _ _ b _ _ => b
 | _ => []
noncomputable def body81:List Stmt:=forBody ((fi81.body[4]?).getD (.Pass default))
theorem fin60' {A b q r:Int} (hb:0 < b) (h:r = A - q * b) (h0:0 ≤ r) (h1:r < b):(AV.tup [.int q,.int r]) = .tup [.int (A / b),.int (A % b)]:=by
 have:=fin60 hb h h0 h1
 have e:∀ xs:List AV,tr [] (.tup xs) = some (.tup xs,[]):=fun _ => rfl
 rw [e] at this
 injection this with q
 injection q
theorem loop81 {f m:Nat} {b:Int} {A:Option AV} {xs:AV} {KS:AF → VS → OB → Prop} (hm:m ≤ 2 ^ 21) (hm0:0 < m) (hb:2 ^ m ≤ 2 * b) (hb':b < 2 ^ m) :
  ∀ (es:List Int) (r:Int) (qs:List Int) (x y:Option AV),DOk m es → 0 ≤ r → r < b → qs.length + es.length ≤ 2 ^ 21 →
   (∀ (nq:List Int) (r':Int) (x y:Option AV),nq.length = es.length → DOk m nq → 0 ≤ r' → r' < b → r * 2 ^ (m * es.length) + dval m es.reverse = dval m nq.reverse * b + r' →
    KS .next [A,some (.int b),some (.int m),some xs,some (.int r'),some (.loc 0),x,y,none,none,none,none,none] [.list (iavs (qs ++ nq))]) →
   runS (forF (.one 6) (ss ((ev GP0 (f + 80)).s (fsc fi81)) body81) (ss ((ev GP0 (f + 80)).s (fsc fi81)) []) (iavs es)) [A,some (.int b),some (.int m),some xs,some (.int r),some (.loc 0),x,y,none,none,none,none,none] [.list (iavs qs)] KS:=by
 intro es
 induction es with
 | nil =>
  intro r qs x y _ h0 h1 _ k
  refine xFor0 (xss0 ?_)
  have:=k [] r x y rfl (fun _ h => nomatch h) h0 h1 (by simp [dval])
  rw [List.append_nil] at this
  exact this
 | cons e es ih =>
  intro r qs x y ho h0 h1 hl k
  obtain ⟨e0,e1⟩:=ho e (List.mem_cons_self ..)
  have P:=pow_pos' m
  have hb0:0 < b:=by lia
  have hx0:0 ≤ r * 2 ^ m + e:=by have:=Int.mul_nonneg h0 (Int.le_of_lt P); lia
  have hx1:r * 2 ^ m + e < b * 2 ^ m:=by
   have:=Int.mul_le_mul_of_nonneg_right (Int.add_one_le_of_lt h1) (Int.le_of_lt P)
   rw [Int.add_mul,Int.one_mul] at this
   lia
  have hq0:0 ≤ (r * 2 ^ m + e) / b:=Int.ediv_nonneg hx0 (by lia)
  have hq1:(r * 2 ^ m + e) / b < 2 ^ m:=div_lt hb0 (by rw [Int.mul_comm (2 ^ m) b]; exact hx1)
  have hr0:0 ≤ (r * 2 ^ m + e) % b:=Int.emod_nonneg _ (by lia)
  have hr1:(r * 2 ^ m + e) % b < b:=Int.emod_lt_of_pos _ hb0
  have c:=w53 10 m (r * 2 ^ m + e) b (f + 78) [.list (iavs qs)] (by lia) hm hx0 hx1 hb hb' (by lia)
  have h27:(2:Nat) ^ 27 = 64 * 2 ^ 21:=by decide
  have hbr:bts r ≤ m:=bts_le' h0 (by lia)
  rw [List.length_cons] at hl
  refine xFor1 rfl ?_;refine xss1 ?_;refine sTup1 s81_q_digit s81_r ⟨by decide,rfl⟩ ?_;refine xCallI g81__div2n1n rfl rfl rfl ?_;refine xEvs1 ?_;refine fBO ?_;refine fB ?_;refine fN l81_r rfl rfl ?_;refine fN l81_n rfl rfl ?_
  refine ⟨_,bShl rfl (by lia),?_⟩
  refine fN l81_a_digit rfl rfl ?_
  refine ⟨_,bAdd,?_⟩
  refine xEvs1 ?_;refine fNO l81_b rfl rfl ?_;refine xEvs1 ?_;refine fNO l81_n rfl rfl ?_;refine xEvs0 ?_
  refine ⟨rfl,rfl,_,c,_,_,rfl,seqN ?_⟩
  refine xss1 ?_;refine sExpr rfl ?_;refine xAppend rfl rfl rfl rfl ?_;refine xN l81_q_digits rfl ?_;refine fN l81_q_digit rfl rfl ?_
  refine ⟨0,_,_,rfl,rfl,rfl,rfl,by rw [iavs_len,sz24]; lia,rfl,seqL rfl (xss0 ⟨rfl,?_⟩)⟩
  show runS _ _ [.list (iavs qs ++ iavs [(r * 2 ^ m + e) / b])] _
  rw [← iavs_app]
  refine ih ((r * 2 ^ m + e) % b) (qs ++ [(r * 2 ^ m + e) / b]) _ _ (fun d hd => ho d (List.mem_cons_of_mem _ hd)) hr0 hr1 (by rw [List.length_append,List.length_singleton]; lia) fun nq r' x' y' hn hd hr hr' hv => ?_
  rw [List.append_assoc]
  refine k ([(r * 2 ^ m + e) / b] ++ nq) r' x' y' (by simp; lia) (fun d hd' => ?_) hr hr' ?_
  ·rcases List.mem_append.mp hd' with q | q
   ·rw [List.mem_singleton.mp q]; exact ⟨hq0,hq1⟩
   ·exact hd d q
  ·have hee:r * 2 ^ m + e = b * ((r * 2 ^ m + e) / b) + (r * 2 ^ m + e) % b:=by have:=Int.mul_ediv_add_emod (r * 2 ^ m + e) b; lia
   generalize (r * 2 ^ m + e) / b = q at *
   generalize (r * 2 ^ m + e) % b = s at *
   rw [List.reverse_cons,dval_append,List.length_reverse,List.reverse_append,List.reverse_singleton,dval_append,List.length_reverse,hn]
   have d1:∀ z:Int,dval m [z] = z:=fun z => by show z + 2 ^ m * 0 = z; lia
   rw [d1,d1,List.length_cons,Nat.mul_add,Nat.mul_one,Int.pow_add]
   have t1:r * (2 ^ (m * es.length) * 2 ^ m) = r * 2 ^ m * 2 ^ (m * es.length):=by rw [Int.mul_comm (2 ^ (m * es.length)),Int.mul_assoc]
   have t2:(r * 2 ^ m + e) * 2 ^ (m * es.length) = (b * q + s) * 2 ^ (m * es.length):=by rw [hee]
   rw [Int.add_mul,Int.add_mul] at t2
   have t3:(dval m nq.reverse + 2 ^ (m * es.length) * q) * b = dval m nq.reverse * b + b * q * 2 ^ (m * es.length):=by
    rw [Int.add_mul]; congr 1; rw [Int.mul_comm (2 ^ (m * es.length)) q,Int.mul_right_comm,Int.mul_comm q b]
   have t4:2 ^ (m * es.length) * e = e * 2 ^ (m * es.length):=Int.mul_comm _ _
   rw [t1,t3,t4]
   lia
theorem w81 {F:Nat} {a b:Int} (ha:0 ≤ a) (hb:0 < b) (hba:bts a ≤ 2 ^ 21) (hbb:bts b ≤ 2 ^ 21) (hF:140 ≤ F):callI (ev GP0 F) fi81 [.int a,.int b] ob = some (.tup [.int (a / b),.int (a % b)],ob):=by
 obtain ⟨f,rfl⟩:=Nat.exists_eq_add_of_le' hF
 obtain ⟨m,hm⟩:∃ m,m = bts b:=⟨_,rfl⟩
 have hm0:0 < m:=by rw [hm]; exact bts_pos (by lia)
 have h1:b < 2 ^ m:=lt_bts' (by lia)
 have h2:2 ^ m ≤ 2 * b:=by
  have:=le_bts (x:=b) (by lia)
  rw [← hm] at this
  obtain ⟨k,rfl⟩:∃ k,m = k + 1:=⟨m - 1,by lia⟩
  have e:=pow_cast k
  have e3:(2:Int) ^ (k + 1) = 2 ^ k * 2:=Int.pow_succ 2 k
  rw [Nat.add_sub_cancel] at this
  lia
 obtain ⟨ds,d1,d2,d3,d4,d5⟩:=w67 (F:=f + 138) (ob:=[]) ha hba hm0 (by lia) (by lia)
 refine callI_of ⟨by rfl,by rfl,by rfl,by rfl⟩ ?_
 rw [show setVs (vs₀ fi81.fd) fi81.is [.int a,.int b] = [some (.int a),some (.int b),none,none,none,none,none,none,none,none,none,none,none] from by kernel_rfl]
 refine xss1 ?_;refine sAssign1 s81_n rfl ?_;refine xBits rfl rfl rfl ?_;refine xN l81_b rfl ?_
 refine ⟨_,rfl,rfl,seqN ?_⟩
 rw [show Builtin.Int.intBits b = m from hm.symm]
 refine xss1 ?_;refine sAssign1 s81_a_digits rfl ?_;refine xCallI g81__int2digits rfl rfl rfl ?_;refine xEvs1 ?_;refine fNO l81_a rfl rfl ?_;refine xEvs1 ?_;refine fNO l81_n rfl rfl ?_;refine xEvs0 ?_
 refine ⟨rfl,rfl,_,d5,seqN ?_⟩
 refine xss1 ?_;refine sAssign1 s81_r rfl ?_;refine xInt ?_;refine seqN ?_;refine xss1 ?_;refine sAssignE s81_q_digits ?_;refine seqNg (ob'':=[.list []]) (by rfl) ?_;refine xss1 ?_;refine sForO (tg:=.one 6) (by kernel_rfl) rfl rfl ?_;refine eIt_rev (itRev1 rfl g81_reversed) ?_;refine fN l81_a_digits rfl rfl ?_
 refine ⟨_,rfl,by rw [iavs_len,sz24]; lia,?_⟩
 rw [show (iavs ds).reverse = iavs ds.reverse from by unfold iavs; simp]
 refine loop81 (f:=f + 59) (A:=some (.int a)) (xs:=.lst (iavs ds)) (by lia) hm0 h2 h1 ds.reverse 0 [] none none (fun d hd => d1 d (List.mem_reverse.mp hd)) (by lia) hb (by rw [List.length_reverse]; simpa using d3) fun nq r' x y hn hd hr hr' hv => ?_
 rw [List.reverse_reverse,d2] at hv
 have hda:a = dval m nq.reverse * b + r':=by lia
 have hdr:DOk m nq.reverse:=fun d hd' => hd d (List.mem_reverse.mp hd')
 rw [List.length_reverse] at hn
 refine seqL rfl ?_
 have hba':bts a + m ≤ 2 ^ 23:=by lia
 refine xss1 ?_;refine sExpr rfl ?_;refine xReverse rfl rfl rfl ?_;refine xN l81_q_digits rfl ?_
 refine ⟨0,_,rfl,rfl,by rw [iavs_len,sz24]; simp; lia,rfl,seqL rfl ?_⟩
 show runS _ _ [.list (iavs ([] ++ nq)).reverse] _
 rw [List.nil_append,show (iavs nq).reverse = iavs nq.reverse from by unfold iavs; simp]
 have c:=w74 (F:=f + 138) (ob:=[.frz (iavs nq.reverse)]) hdr (by rw [List.length_reverse]; lia) (by rw [List.length_reverse,hn]; lia) (by lia)
 refine xss1 ?_;refine sAssign1 s81_q rfl ?_;refine xCallI2 g81__digits2int rfl rfl rfl ?_;refine xEvs1 ?_;refine fNO l81_q_digits rfl rfl ?_;refine xEvs1 ?_;refine fNO l81_n rfl rfl ?_;refine xEvs0 ?_
 refine ⟨rfl,rfl,_,c,seqL rfl ?_⟩
 refine xss1 ?_;refine sRet1 (.inl rfl) ?_;refine xTup rfl ?_;refine xEvs1 ?_;refine fN l81_q rfl rfl ?_;refine xEvs1 ?_;refine fN l81_r rfl rfl ?_;refine xEvs0 ?_
 exact ⟨⟨rfl,two_sz⟩,seqRL rfl ⟨_,[.frz (iavs nq.reverse)],rfl,by rw [← fin60' hb (q:=dval m nq.reverse) (r:=r') (A:=a) (by lia) hr hr']; rfl⟩⟩
end
section
variable {ob:OB}
theorem w88p {F:Nat} {a b:Int} (ha:0 ≤ a) (hb:0 < b) (hba:bts a ≤ 2 ^ 21) (hbb:bts b ≤ 2 ^ 21) (hF:150 ≤ F):callI (ev GP0 F) fi88 [.int a,.int b] ob = some (.tup [.int (a / b),.int (a % b)],ob):=by
 obtain ⟨f,rfl⟩:=Nat.exists_eq_add_of_le' hF
 refine callI_of ⟨by rfl,by rfl,by rfl,by rfl⟩ ?_
 rw [show setVs (vs₀ fi88.fd) fi88.is [.int a,.int b] = [some (.int a),some (.int b),none,none,none,none,none] from by kernel_rfl]
 refine xss1 ?_;refine sIf1 ?_;refine iCmp1 rfl rfl ?_;refine fN l88_b rfl rfl ?_;refine fI ?_
 refine ⟨_,cEqI,?_⟩
 refine Br.no (decide_eq_false (by lia)) ?_;refine xss1 ?_;refine sIf1 ?_;refine iCmp1 rfl rfl ?_;refine fN l88_b rfl rfl ?_;refine fI ?_
 refine ⟨_,cLtI,?_⟩
 refine Br.no (decide_eq_false (by lia)) ?_;refine xss1 ?_;refine sIf1 ?_;refine iCmp1 rfl rfl ?_;refine fN l88_a rfl rfl ?_;refine fI ?_
 refine ⟨_,cLtI,?_⟩
 refine Br.no (decide_eq_false (by lia)) ?_;refine xss1 ?_;refine sRet1 (.inl rfl) ?_;refine xCallI g88__divmod_pos rfl rfl rfl ?_;refine xEvs1 ?_;refine fNO l88_a rfl rfl ?_;refine xEvs1 ?_;refine fNO l88_b rfl rfl ?_;refine xEvs0 ?_
 exact ⟨rfl,rfl,_,w81 ha hb hba hbb (by lia),seqR (seqR (seqR (seqR ⟨_,_,rfl,rfl⟩)))⟩
theorem bnot (x:Int):Builtin.bitNot x = -x - 1:=rfl
theorem bts_not {x:Int} (h:x < 0):bts (-x - 1) ≤ bts x:=bts_mono (by omega)
theorem w88 {F:Nat} {a b:Int} (hb:0 < b) (hba:bts a ≤ 2 ^ 21) (hbb:bts b ≤ 2 ^ 21) (hF:160 ≤ F):callI (ev GP0 F) fi88 [.int a,.int b] ob = some (.tup [.int (a / b),.int (a % b)],ob):=by
 by_cases ha:0 ≤ a
 ·exact w88p ha hb hba hbb (by lia)
 obtain ⟨f,rfl⟩:=Nat.exists_eq_add_of_le' hF
 have h0:=bts_not (x:=a) (by lia)
 have c:=w88p (F:=f + 155) (ob:=[]) (a:=-a - 1) (b:=b) (by lia) hb (by lia) hbb (by lia)
 refine callI_of ⟨by rfl,by rfl,by rfl,by rfl⟩ ?_
 rw [show setVs (vs₀ fi88.fd) fi88.is [.int a,.int b] = [some (.int a),some (.int b),none,none,none,none,none] from by kernel_rfl]
 refine xss1 ?_;refine sIf1 ?_;refine iCmp1 rfl rfl ?_;refine fN l88_b rfl rfl ?_;refine fI ?_
 refine ⟨_,cEqI,?_⟩
 refine Br.no (decide_eq_false (by lia)) ?_;refine xss1 ?_;refine sIf1 ?_;refine iCmp1 rfl rfl ?_;refine fN l88_b rfl rfl ?_;refine fI ?_
 refine ⟨_,cLtI,?_⟩
 refine Br.no (decide_eq_false (by lia)) ?_;refine xss1 ?_;refine sIf1 ?_;refine iCmp1 rfl rfl ?_;refine fN l88_a rfl rfl ?_;refine fI ?_
 refine ⟨_,cLtI,?_⟩
 refine Br.yes (decide_eq_true (by lia)) ?_;refine xss1 ?_;refine sTup1 s88_q s88_r ⟨by decide,rfl⟩ ?_;refine xCallI g88_int_divmod rfl rfl rfl ?_;refine xEvs1 ?_;refine xFrzO ?_;refine xInv ?_;refine xN l88_a rfl ?_
 refine ⟨_,rfl,?_⟩
 refine ⟨_,_,rfl,?_⟩
 refine xEvs1 ?_;refine fNO l88_b rfl rfl ?_;refine xEvs0 ?_
 rw [bnot]
 refine ⟨rfl,rfl,_,c,_,_,rfl,seqN ?_⟩
 refine xss1 ?_;refine sRet1 (.inl rfl) ?_;refine xTup rfl ?_;refine xEvs1 ?_;refine xFrz ?_;refine xInv ?_;refine xN l88_q rfl ?_
 refine ⟨_,rfl,?_⟩
 refine ⟨_,_,rfl,?_⟩
 refine xEvs1 ?_;refine fB ?_;refine fN l88_b rfl rfl ?_;refine xFrz ?_;refine xInv ?_;refine xN l88_r rfl ?_
 refine ⟨_,rfl,?_⟩
 refine ⟨_,_,rfl,?_⟩
 refine ⟨_,bAdd,?_⟩
 refine xEvs0 ?_
 have h1:0 ≤ (-a - 1) % b:=Int.emod_nonneg _ (by lia)
 have h2:(-a - 1) % b < b:=Int.emod_lt_of_pos _ hb
 have h3:-a - 1 = b * ((-a - 1) / b) + (-a - 1) % b:=by have:=Int.mul_ediv_add_emod (-a - 1) b; lia
 refine ⟨⟨rfl,two_sz⟩,seqR (seqR (seqR (seqR ⟨_,[],rfl,?_⟩)))⟩
 rw [bnot,bnot]
 generalize (-a - 1) / b = q at *
 generalize (-a - 1) % b = r at *
 exact fin60 hb (by rw [Int.sub_mul,Int.neg_mul,Int.mul_comm q b]; lia) (by lia) (by lia)
theorem w88n {F:Nat} {a b:Int} (hb:b < 0) (hba:bts a ≤ 2 ^ 21) (hbb:bts b ≤ 2 ^ 21) (hF:170 ≤ F):callI (ev GP0 F) fi88 [.int a,.int b] ob = some (.tup [.int (-a / -b),.int (-(-a % -b))],ob):=by
 obtain ⟨f,rfl⟩:=Nat.exists_eq_add_of_le' hF
 have c:=w88 (F:=f + 166) (ob:=[]) (a:=-a) (b:=-b) (by lia) (by rw [bts_neg]; exact hba) (by rw [bts_neg]; exact hbb) (by lia)
 refine callI_of ⟨by rfl,by rfl,by rfl,by rfl⟩ ?_
 rw [show setVs (vs₀ fi88.fd) fi88.is [.int a,.int b] = [some (.int a),some (.int b),none,none,none,none,none] from by kernel_rfl]
 refine xss1 ?_;refine sIf1 ?_;refine iCmp1 rfl rfl ?_;refine fN l88_b rfl rfl ?_;refine fI ?_
 refine ⟨_,cEqI,?_⟩
 refine Br.no (decide_eq_false (by lia)) ?_;refine xss1 ?_;refine sIf1 ?_;refine iCmp1 rfl rfl ?_;refine fN l88_b rfl rfl ?_;refine fI ?_
 refine ⟨_,cLtI,?_⟩
 refine Br.yes (decide_eq_true (by lia)) ?_;refine xss1 ?_;refine sTup1 s88_q s88_r ⟨by decide,rfl⟩ ?_;refine xCallI g88_int_divmod rfl rfl rfl ?_;refine xEvs1 ?_;refine xFrzO ?_;refine xNeg ?_;refine xN l88_a rfl ?_
 refine ⟨_,rfl,?_⟩
 refine ⟨_,_,rfl,?_⟩
 refine xEvs1 ?_;refine xFrzO ?_;refine xNeg ?_;refine xN l88_b rfl ?_
 refine ⟨_,rfl,?_⟩
 refine ⟨_,_,rfl,?_⟩
 refine xEvs0 ?_
 refine ⟨rfl,rfl,_,c,_,_,rfl,seqN ?_⟩
 refine xss1 ?_;refine sRet1 (.inl rfl) ?_;refine xTup rfl ?_;refine xEvs1 ?_;refine fN l88_q rfl rfl ?_;refine xEvs1 ?_;refine xFrz ?_;refine xNeg ?_;refine xN l88_r rfl ?_
 refine ⟨_,rfl,?_⟩
 refine ⟨_,_,rfl,?_⟩
 refine xEvs0 ?_
 exact ⟨⟨rfl,two_sz⟩,seqR (seqR (seqR ⟨_,[],rfl,rfl⟩))⟩
end
section
set_option backward.match.sparseCases false
section
variable {G:Gl} {n:Nat} {sc:Sc} {vs:VS} {ob:OB} {K:AV → OB → Prop} {KS:AF → VS → OB → Prop}
theorem ref_of {vs:VS} {i k:Nat} (h:getV vs i = some (.loc k)):refVS k vs = true:=by
 unfold getV at h
 unfold refVS
 rw [List.any_eq_true]
 cases q:vs[i]? with
 | none => (first | exact noO q h | exact noI q h | (rw [q] at h; cases h))
 | some a =>
  rw [q] at h
  have:a = some (.loc k):=h
  subst this
  exact ⟨_,List.mem_of_getElem? q,beq_self_eq_true k⟩
theorem gc_live {fl:AF} {vs:VS} {m i k:Nat} {ob:OB} (h:getV vs i = some (.loc k)) (hk:ob.length = k + 1):gcN fl vs m ob = ob:=by
 cases m with
 | zero => rfl
 | succ m =>
  refine if_pos ?_
  rw [hk,Nat.add_sub_cancel,ref_of h,Bool.or_true]
  rfl
theorem gcN_succ {fl:AF} {vs:VS} {n:Nat} {ob:OB}:gcN fl vs (n + 1) ob = if refAF (ob.length - 1) fl || refVS (ob.length - 1) vs || ob.any (refAO (ob.length - 1)) then ob else gcN fl vs n ob.dropLast:=rfl
theorem gc_junk' {fl:AF} {vs:VS} {t:Nat} {P:OB} (hp:∀ i,P.length ≤ i → refAF i fl = false ∧ refVS i vs = false ∧ P.any (refAO i) = false):∀ R:OB,(∀ o ∈ R,∀ i,refAO i o = false) → gcN fl vs (R.length + t) (P ++ R.reverse) = gcN fl vs t P:=by
 intro R
 induction R with
 | nil => intro _; simp
 | cons o R ih =>
  intro hj
  have e:(o :: R).length + t = (R.length + t) + 1:=by rw [List.length_cons]; lia
  rw [e,gcN_succ]
  have hl:(P ++ (o :: R).reverse).length - 1 = P.length + R.length:=by simp
  rw [hl]
  obtain ⟨h1,h2,h3⟩:=hp (P.length + R.length) (by lia)
  have h4:(P ++ (o :: R).reverse).any (refAO (P.length + R.length)) = false:=by
   rw [List.any_append,h3,Bool.false_or,List.any_eq_false]
   intro x hx
   rw [hj x (List.mem_reverse.mp hx)]; simp
  rw [h1,h2,h4]
  have h5:(P ++ (o :: R).reverse).dropLast = P ++ R.reverse:=by rw [List.reverse_cons,← List.append_assoc]; exact List.dropLast_concat
  simp only [Bool.or_self,Bool.false_eq_true,if_false,h5]
  exact ih fun x hx => hj x (List.mem_cons_of_mem _ hx)
theorem gc_junk {fl:AF} {vs:VS} {t:Nat} {P J:OB} (hj:∀ o ∈ J,∀ i,refAO i o = false) (hp:∀ i,P.length ≤ i → refAF i fl = false ∧ refVS i vs = false ∧ P.any (refAO i) = false):gcN fl vs (J.length + t) (P ++ J) = gcN fl vs t P:=by
 have:=gc_junk' (t:=t) hp J.reverse fun o ho => hj o (List.mem_reverse.mp ho)
 rwa [List.reverse_reverse,List.length_reverse] at this
theorem seqB {f:Stmt → FS} {rest:List Stmt} {vs':VS} {ob':OB} (hl:ob'.length = ob.length) (h:KS .brk vs' ob'):seqK f rest ob KS .brk vs' ob':=by
 show KS .brk vs' (gcN .brk vs' (ob'.length - ob.length) ob')
 rw [gc_len hl]; exact h
theorem sBrk {p:Pos} (k:KS .brk vs ob):runS ((ev G (n + 1)).s sc (.Break p)) vs ob KS:=⟨_,_,_,rfl,k⟩
noncomputable abbrev kForB (tg:TgK) (body orelse:FS) (xs:List AV) (KS:KSt):KSt:=fun fl vs2 ob2 => (fl = .next ∧ runS (forF tg body orelse xs) vs2 ob2 KS) ∨ (fl = .brk ∧ KS .next vs2 ob2)
theorem xForB {tg:TgK} {body orelse:FS} {x:AV} {xs:List AV} {vs1:VS} (h1:tgV tg x vs = some vs1) (h:runS body vs1 ob (kForB tg body orelse xs KS)):runS (forF tg body orelse (x :: xs)) vs ob KS:=by
 obtain ⟨fl,vs2,ob2,e2,⟨rfl,a,vs3,ob3,e3,k⟩ | ⟨rfl,k⟩⟩:=h
 ·exact ⟨a,vs3,ob3,bindI h1 (bindI e2 e3),k⟩
 ·exact ⟨_,vs2,ob2,bindI h1 (bindI e2 rfl),k⟩
theorem lenRd {a:AV} {zs:List AV} (h:rdL ob a = some zs) (hn:(match a with | .tup _ => false | _ => true) = true) (hl:zs.length ≤ sizeLine):bfn "len" [a] ob = some (.int zs.length,ob):=by
 have:bfn "len" [a] ob = bLen [a] ob:=rfl
 rw [this]
 cases a <;> first | (cases h; done) | (cases hn; done) | exact bindI (x:=(rdL ob _).map List.length) (f:=fun n => if n ≤ sizeLine then some (AV.int n,ob) else none) (a:=zs.length) (mapI h rfl) (if_pos hl)
inductive kAttrS (G:Gl) (name:Str) (vs:VS) (KS:KSt) (y:AV) (a:AV) (ob2:OB):Prop
 | mk (j:_) (C:_) (ns:_) (xs:_) (h1:a = .loc j) (h2:ob2[j]? = some (.inst C ns xs)) (h3:(isData y = true ∧ ns.length ≤ sizeLine ∧ G.plain C name = true)) (k:KS .next vs (ob2.set j (.inst C (name :: ns) (y :: xs)))):kAttrS G name vs KS y a ob2
theorem sAttr {e o:Expr} {name:Str} {ps p:Pos} (hp:isComp e = false) (h:runE ((ev G n).e sc e) vs ob (kX G n sc vs o (kAttrS G name vs KS))) :
  runS ((ev G (n + 1)).s sc (.Assign [.Attribute o name ps] e p)) vs ob KS:=by
 obtain ⟨y,ob1,e1,a,ob2,e2,j,C,ns,xs,rfl,e3,e4,k⟩:=h
 exact ⟨_,_,_,ifJ (nT (noLC hp)) (bindI e1 (bindI e2 (bindI rfl (bindI (bindI e3 rfl) (ifI e4 rfl))))),k⟩
noncomputable def notCst:AV → Bool
 | .cst _ => false
 | _ => true
inductive kAttrI (G:Gl) (name:Str) (K:KE) (a:AV) (ob1:OB):Prop
 | mk (C:_) (ns:_) (xs:_) (x:_) (h1:notCst a = true) (h2:instOf ob1 a = some (C,ns,xs)) (h3:G.plain C name = true) (h4:(ns.zip xs).lookup name = some x) (h5:isData x = true) (k:K x ob1):kAttrI G name K a ob1
theorem noC_of {a:AV} (h:notCst a = true):a.c?.bind rf? = none:=by cases a <;> first | rfl | exact absurd h Bool.false_ne_true
theorem eAttr_i {value:Expr} {name:Str} {a:AV} {ob1:OB} {C:Addr} {ns:List Str} {xs:List AV} {x:AV} (hb:isBareCall value = false) (e1:(ev G n).e sc value vs ob = some (a,ob1)) (hn:a.c?.bind rf? = none) (e2:instOf ob1 a = some (C,ns,xs)) (e3:G.plain C name = true) (e4:(ns.zip xs).lookup name = some x) (e5:isData x = true) :
  eAttr G (ev G n) sc value name vs ob = some (x,ob1):=ifJ (nT hb) (bindI e1 (by dsimp only; rw [hn]; exact bindI e2 (ifI e3 (bindI e4 (ifI e5 rfl)))))
theorem xAttrI {value:Expr} {name:Str} {p:Pos} (hb:isBareCall value = false) (h:runE ((ev G n).e sc value) vs ob (kAttrI G name K)):runE ((ev G (n + 1)).e sc (.Attribute value name p)) vs ob K:=by
 obtain ⟨a,ob1,e1,h⟩:=h
 obtain ⟨C,ns,xs,x,hn,e2,e3,e4,e5,k⟩:=h
 exact ⟨x,ob1,eAttr_i hb e1 (noC_of hn) e2 e3 e4 e5,k⟩
inductive kAttrC (G:Gl) (name:Str) (K:KE) (a:AV) (ob1:OB):Prop
 | mk (C:_) (x:_) (h1:a = .cst (.ref C)) (h2:G.cattr C name = some x) (k:K x ob1):kAttrC G name K a ob1
theorem xAttrC {value:Expr} {name:Str} {p:Pos} (hb:isBareCall value = false) (h:runE ((ev G n).e sc value) vs ob (kAttrC G name K)):runE ((ev G (n + 1)).e sc (.Attribute value name p)) vs ob K:=by
 obtain ⟨a,ob1,e1,C,x,rfl,e2,k⟩:=h
 exact ⟨x,ob1,show eAttr G (ev G n) sc value name vs ob = _ from ifJ (nT hb) (bindI e1 (mapI e2 rfl)),k⟩
noncomputable abbrev kTri (i j l:Nat) (vs:VS) (KS:KSt):KE:=fun a ob1 => a.tree = true ∧ KS .next (setV (setV (setV vs i a) j a) l a) ob1
theorem sTri {x y z:Str} {px py pz p:Pos} {e:Expr} {i j l:Nat} (h1:stIx sc x = some i) (h2:stIx sc y = some j) (h3:stIx sc z = some l) (h:runE ((ev G n).e sc e) vs ob (kTri i j l vs KS)) :
  runS ((ev G (n + 1)).s sc (.Assign [.Name x px,.Name y py,.Name z pz] e p)) vs ob KS:=by
 obtain ⟨a,ob1,e1,e2,k⟩:=h
 exact ⟨_,_,_,by show sThree (ev G n) sc (.Name x px) (.Name y py) (.Name z pz) e vs ob = _; unfold sThree; exact bindI (x:=nm? (.Name x px)) (a:=x) rfl (bindI (x:=nm? (.Name y py)) (a:=y) rfl (bindI (x:=nm? (.Name z pz)) (a:=z) rfl (bindI h1 (bindI h2 (bindI h3 (bindI e1 (ifI e2 rfl))))))),k⟩
inductive kItS (KL:List AV → OB → Prop) (b:AV) (ob1:OB):Prop
 | mk (x:_) (h1:b = .str x) (h2:(x.cps.all (· < 128) = true ∧ x.cps.size ≤ sizeLine)) (k:KL (signs x) ob1):kItS KL b ob1
theorem eIt_s {iter:Expr} {KL:List AV → OB → Prop} (h:itK G sc iter = .other) (h1:runE (frz ((ev G n).e sc iter)) vs ob (kItS KL)):runL (eIt G (ev G n) sc iter) vs ob KL:=by
 obtain ⟨b,ob1,e1,xs,rfl,e2,k⟩:=h1
 exact ⟨_,ob1,by rw [eIt_k h]; exact bindI e1 (mapI (ifI e2 rfl) rfl),k⟩
theorem shaped_str {x:Str} (h:PyData.strOk x = true):shaped (.str x) = true:=by
 unfold shaped
 rw [show PyData.canLay0 (.str x) = PyData.strOk x from by simp only [PyData.canLay0],h]; rfl
theorem cEqS {x y:Str} (hx:PyData.strOk x = true) (hy:PyData.strOk y = true):copF .Eq (.str x) (.str y) = some (x == y):=by
 have:copF .Eq (.str x) (.str y) = if (AV.isP (.str x) && AV.isP (.str y) && shaped (.str x) && shaped (.str y)) = true then some (PyData.eqv (.str x) (.str y)) else none:=rfl
 rw [this,shaped_str hx,shaped_str hy]
 rfl
theorem at_mid {A B:OB} {x:AO} {i:Nat} (h:A.length = i):(A ++ x :: B)[i]? = some x:=by subst h; simp
theorem set_mid {A B:OB} {x y:AO} {i:Nat} (h:A.length = i):(A ++ x :: B).set i y = A ++ y :: B:=by subst h; simp
end
end
theorem l105_self:ldIx (fsc fi105) "self" = some 0:=by kernel_rfl
theorem s105_self:stIx (fsc fi105) "self" = some 0:=by kernel_rfl
theorem l105_ws:ldIx (fsc fi105) "ws" = some 1:=by kernel_rfl
theorem s105_ws:stIx (fsc fi105) "ws" = some 1:=by kernel_rfl
theorem l105_S:ldIx (fsc fi105) "S" = some 2:=by kernel_rfl
theorem s105_S:stIx (fsc fi105) "S" = some 2:=by kernel_rfl
theorem l105_T:ldIx (fsc fi105) "T" = some 3:=by kernel_rfl
theorem s105_T:stIx (fsc fi105) "T" = some 3:=by kernel_rfl
theorem l105_count:ldIx (fsc fi105) "count" = some 4:=by kernel_rfl
theorem s105_count:stIx (fsc fi105) "count" = some 4:=by kernel_rfl
theorem l105_b:ldIx (fsc fi105) "b" = some 5:=by kernel_rfl
theorem s105_b:stIx (fsc fi105) "b" = some 5:=by kernel_rfl
theorem l105_n:ldIx (fsc fi105) "n" = some 6:=by kernel_rfl
theorem s105_n:stIx (fsc fi105) "n" = some 6:=by kernel_rfl
theorem l105_nt:ldIx (fsc fi105) "nt" = some 7:=by kernel_rfl
theorem s105_nt:stIx (fsc fi105) "nt" = some 7:=by kernel_rfl
theorem l105_ch:ldIx (fsc fi105) "ch" = some 8:=by kernel_rfl
theorem s105_ch:stIx (fsc fi105) "ch" = some 8:=by kernel_rfl
theorem g105_Whitespace:gName GP0 (fsc fi105) "Whitespace" = some (.cst (.ref 150)):=by kernel_rfl
theorem g105_len:gName GP0 (fsc fi105) "len" = some (.cst (.builtin "len")):=by kernel_rfl
theorem g105_tuple:gName GP0 (fsc fi105) "tuple" = some (.cst (.type "tuple")):=by kernel_rfl
noncomputable def bump (cs:List Int) (b:Nat):List Int :=
 if cs.length ≤ b then (cs ++ List.replicate (b - cs.length + 1) 0).set b ((cs ++ List.replicate (b - cs.length + 1) 0).getD b 0 + 1) else cs.set b (cs.getD b 0 + 1)
noncomputable def wsR:List Str → Nat → Nat → Nat → List Int → Nat × Nat × Nat × List Int
 | [],b,n,nt,cs => (b,n,nt,cs)
 | ch :: r,b,n,nt,cs => if ch == (" " : Str) then wsR r (b + 1) (n + 1) nt cs else if ch == ("\t" : Str) then wsR r 0 (n + 1) (nt + 1) (bump cs b) else (b,n,nt,cs)
noncomputable def VW (k:Nat) (x:Str) (c b n nt:Nat) (ch:Option AV):VS:=[some (.loc k),some (.str x),some (.str " "),some (.str "\t"),some (.loc c),some (.int b),some (.int n),some (.int nt),ch,none,none,none]
noncomputable def OBW (Ob:OB) (ns:List Str) (xs:List AV) (J:OB) (o:AO):OB:=(Ob ++ .inst 150 ns xs :: J) ++ [o]
noncomputable def Junk (J:OB):Prop:=∀ o ∈ J,∀ i,refAO i o = false
theorem OBW_inst {Ob ns xs J o}:(OBW Ob ns xs J o)[Ob.length]? = some (.inst 150 ns xs):=by unfold OBW; rw [List.append_assoc]; exact at_mid rfl
theorem OBW_last {Ob ns xs J o}:(OBW Ob ns xs J o)[Ob.length + 1 + J.length]? = some o:=by unfold OBW; exact at_mid (by simp; lia)
theorem OBW_set {Ob ns xs J o o'}:(OBW Ob ns xs J o).set (Ob.length + 1 + J.length) o' = OBW Ob ns xs J o':=by unfold OBW; exact set_mid (by simp; lia)
theorem OBW_seti {Ob ns xs J o ns' xs'}:(OBW Ob ns xs J o).set Ob.length (.inst 150 ns' xs') = OBW Ob ns' xs' J o:=by unfold OBW; rw [List.append_assoc,List.append_assoc]; exact set_mid rfl
theorem OBW_len {Ob ns xs J o}:(OBW Ob ns xs J o).length = Ob.length + 1 + J.length + 1:=by unfold OBW; simp; lia
theorem OBW_push {Ob ns xs J o o'}:OBW Ob ns xs J o ++ [o'] = OBW Ob ns xs (J ++ [o]) o':=by unfold OBW; simp
theorem mulF_lst {xs:List AV} {y:Int} (h:xs.isEmpty = false ∧ y < 2 ^ 63 ∧ -(2 ^ 63) ≤ y ∧ xs.length * y.toNat ≤ sizeLine):bopF .Mult (.lst xs) (.int y) = some (.lst (List.replicate y.toNat xs).flatten):=if_pos h
theorem bRep {z:AV} {c:Nat} (h:c ≤ 2 ^ 22):bopF .Mult (.lst [z]) (.int c) = some (.lst (List.replicate c z)):=by
 have hs:sizeLine = 2 ^ 24:=rfl
 have e:(List.replicate c [z]).flatten = List.replicate c z:=by
  clear h
  induction c with
  | zero => rfl
  | succ c ih => rw [List.replicate_succ,List.flatten_cons,ih,List.replicate_succ]; rfl
 exact (mulF_lst ⟨rfl,by lia,by lia,by rw [Int.toNat_natCast]; simp only [List.length_cons,List.length_nil]; lia⟩).trans (by rw [Int.toNat_natCast,e])
theorem mCat {xs ys:List AV} (h:xs.length + ys.length ≤ sizeLine):mop .Add (.lst xs) (.lst ys) = some (xs ++ ys):=by
 show (if xs.length + ys.length ≤ sizeLine then some (xs ++ ys) else none) = _
 exact if_pos h
theorem rd_list {ob:OB} {j:Nat} {zs:List AV} (h:ob[j]? = some (.list zs)):rdL ob (.loc j) = some zs:=bindI h rfl
theorem rd_frz {ob:OB} {j:Nat} {zs:List AV} (h:ob[j]? = some (.frz zs)):rdL ob (.loc j) = some zs:=bindI h rfl
theorem tr_list {ob:OB} {j:Nat} {zs:List AV} (h:ob[j]? = some (.list zs)):tr ob (.loc j) = some (.lst zs,ob.set j (.frz zs)):=bindI h rfl
theorem subsLoc {ob:OB} {j:Nat} {zs:List AV} {i:Int} (h:rdL ob (.loc j) = some zs):subsF ob (.loc j) i = getIx zs i:=bindI h rfl
theorem iavs_rep {c:Nat}:iavs (List.replicate c 0) = List.replicate c (.int 0):=by unfold iavs; simp
theorem getIx_nat {xs:List AV} {b:Nat} (h:b < 2 ^ 62):getIx xs b = xs[b]?:=by
 unfold getIx
 rw [if_pos ⟨by lia,by lia⟩,if_pos (Int.natCast_nonneg _),Int.toNat_natCast]
theorem setIx_nat {xs:List AV} {b:Nat} {y:AV} (h:b < 2 ^ 62) (hl:b < xs.length):setIx xs b y = some (xs.set b y):=by
 unfold setIx
 rw [if_pos ⟨by lia,by lia⟩,if_pos (Int.natCast_nonneg _),Int.toNat_natCast,if_pos hl]
theorem iavs_get {cs:List Int} {b:Nat} (h:b < cs.length):(iavs cs)[b]? = some (.int (cs.getD b 0)):=by
 unfold iavs
 rw [List.getElem?_map,List.getElem?_eq_getElem h,List.getD_eq_getElem?_getD,List.getElem?_eq_getElem h]; rfl
theorem iavs_set {cs:List Int} {b:Nat} {y:Int}:(iavs cs).set b (.int y) = iavs (cs.set b y):=by unfold iavs; rw [List.map_set]
noncomputable def body105:List Stmt:=forBody ((fi105.body[4]?).getD (.Pass default))
theorem ws_loop {f k:Nat} {Ob:OB} {ns:List Str} {xs:List AV} {x:Str} {KS:AF → VS → OB → Prop}:∀ (l:List Str) (b n nt:Nat) (cs:List Int) (J:OB) (ch:Option AV),(∀ a ∈ l,PyData.strOk a = true) → Junk J → b + l.length ≤ 1000 → cs.length ≤ 1001 →
  (∀ (J':OB) (ch':Option AV),Junk J' → KS .next (VW k x (Ob.length + 1 + J'.length) (wsR l b n nt cs).1 (wsR l b n nt cs).2.1 (wsR l b n nt cs).2.2.1 ch') (OBW Ob ns xs J' (.list (iavs (wsR l b n nt cs).2.2.2)))) →
  runS (forF (.one 8) (ss ((ev GP0 (f + 20)).s (fsc fi105)) body105) (ss ((ev GP0 (f + 20)).s (fsc fi105)) []) (l.map .str)) (VW k x (Ob.length + 1 + J.length) b n nt ch) (OBW Ob ns xs J (.list (iavs cs))) KS:=by
 intro l
 induction l with
 | nil =>
  intro b n nt cs J ch _ hJ _ _ hk
  exact xFor0 (xss0 (hk J ch hJ))
 | cons a l ih =>
  intro b n nt cs J ch ho hJ hb hc hK
  have hs:sizeLine = 2 ^ 24:=rfl
  have hoa:=ho a (List.mem_cons_self ..)
  rw [List.length_cons] at hb
  have i1:∀ z:Nat,(z:Int) + 1 = ((z + 1:Nat):Int):=fun z => by lia
  refine xForB rfl ?_;refine xss1 ?_;refine sIf1 ?_;refine iCmp1 rfl rfl ?_;refine fN l105_ch rfl rfl ?_;refine fN l105_S rfl rfl ?_
  refine ⟨_,cEqS hoa (by decide +kernel),?_⟩
  by_cases h1:(a == (" " : Str)) = true
  ·refine Br.yes h1 ?_
   refine xss1 ?_;refine sAssignB s105_n ?_;refine fN l105_n rfl rfl ?_;refine fI ?_
   refine ⟨rfl,_,bAdd,seqN ?_⟩
   refine xss1 ?_;refine sAssignB s105_b ?_;refine fN l105_b rfl rfl ?_;refine fI ?_
   refine ⟨rfl,_,bAdd,seqN ?_⟩
   refine xss0 ?_;refine seqN ?_;refine xss0 ?_
   rw [i1,i1]
   refine .inl ⟨rfl,ih (b + 1) (n + 1) nt cs J (some (.str a)) (fun y hy => ho y (List.mem_cons_of_mem _ hy)) hJ (by lia) hc ?_⟩
   have e:wsR (a :: l) b n nt cs = wsR l (b + 1) (n + 1) nt cs:=if_pos h1
   rw [e] at hK
   exact hK
  ·refine Br.no (by simpa using h1) ?_
   refine xss1 ?_;refine sIf1 ?_;refine iCmp1 rfl rfl ?_;refine fN l105_ch rfl rfl ?_;refine fN l105_T rfl rfl ?_
   refine ⟨_,cEqS hoa (by decide +kernel),?_⟩
   by_cases h2:(a == ("\t" : Str)) = true
   ·refine Br.yes h2 ?_
    refine xss1 ?_;refine sAssignB s105_n ?_;refine fN l105_n rfl rfl ?_;refine fI ?_
    refine ⟨rfl,_,bAdd,seqN ?_⟩
    refine xss1 ?_;refine sAssignB s105_nt ?_;refine fN l105_nt rfl rfl ?_;refine fI ?_
    refine ⟨rfl,_,bAdd,seqN ?_⟩
    rw [i1,i1]
    have e:wsR (a :: l) b n nt cs = wsR l 0 (n + 1) (nt + 1) (bump cs b):=(if_neg h1).trans (if_pos h2)
    rw [e] at hK
    refine xss1 ?_;refine sIf1 ?_;refine iCmp1 rfl rfl ?_;refine fN l105_b rfl rfl ?_;refine xFrz ?_;refine xCallL g105_len rfl rfl ?_;refine xEvs1 ?_;refine xN l105_count rfl ?_;refine xEvs0 ?_
    refine ⟨rfl,_,lenRd (rd_list OBW_last) rfl (by rw [iavs_len]; lia),_,_,rfl,_,rfl,?_⟩
    rw [iavs_len]
    by_cases h3:cs.length ≤ b
    ·refine Br.yes (decide_eq_true (by lia)) ?_
     have ez:((b:Int) - (cs.length:Int)) + 1 = ((b - cs.length + 1:Nat):Int):=by lia
     refine xss1 ?_;refine sAssignM s105_count ?_;refine fN l105_count rfl (tr_list OBW_last) ?_;refine xFrz ?_;refine xBin ?_;refine xFrz ?_;refine xList rfl rfl ?_;refine xEvs1 ?_;refine fI ?_;refine xEvs0 ?_
     refine ⟨⟨rfl,by decide⟩,_,_,rfl,?_⟩
     refine fB ?_;refine fB ?_;refine fN l105_b rfl rfl ?_;refine xFrz ?_;refine xCallL g105_len rfl rfl ?_;refine xEvs1 ?_;refine xN l105_count rfl ?_;refine xEvs0 ?_
     rw [OBW_set]
     refine ⟨rfl,_,lenRd (rd_frz OBW_last) rfl (by rw [iavs_len]; lia),_,_,rfl,?_⟩
     rw [iavs_len]
     refine ⟨_,bSub,?_⟩
     refine fI ?_
     refine ⟨_,bAdd,?_⟩
     rw [ez]
     refine ⟨_,bRep (by lia),_,_,rfl,?_⟩
     refine ⟨_,mCat (by rw [iavs_len,List.length_replicate]; lia),?_⟩
     rw [← iavs_rep,← iavs_app,OBW_push]
     refine seqNg (gc_live (i:=4) rfl (by rw [OBW_len,OBW_len]; simp; lia)) ?_
     refine xss0 (seqNg (gc_live (i:=4) rfl (by rw [OBW_len,OBW_len]; simp; lia)) ?_)
     have hl:b < (cs ++ List.replicate (b - cs.length + 1) 0).length:=by simp; lia
     have hb5:bump cs b = (cs ++ List.replicate (b - cs.length + 1) 0).set b ((cs ++ List.replicate (b - cs.length + 1) 0).getD b 0 + 1):=by unfold bump; rw [if_pos h3]
     have ec:Ob.length + 1 + J.length + 1 = Ob.length + 1 + (J ++ [AO.frz (iavs cs)]).length:=by simp; lia
     rw [OBW_len,ec]
     refine xss1 ?_;refine sStoreI rfl ?_;refine fB ?_;refine xFrz ?_;refine xSubN ?_;refine xN l105_count rfl ?_;refine xN l105_b rfl ?_
     refine ⟨_,_,rfl,(subsLoc (rd_list OBW_last)).trans ((getIx_nat (by lia)).trans (iavs_get hl)),_,_,rfl,?_⟩
     refine fI ?_
     refine ⟨_,bAdd,?_⟩
     refine xN l105_count rfl ?_;refine xN l105_b rfl ?_
     refine ⟨_,_,_,_,rfl,rfl,OBW_last,setIx_nat (by lia) (by rw [iavs_len]; exact hl),seqL (by rw [List.length_set]) ?_⟩
     rw [OBW_set,iavs_set]
     refine xss1 ?_;refine sAssign1 s105_b rfl ?_;refine xInt ?_;refine seqN ?_;refine xss0 ?_;refine seqNg (gc_live (i:=4) rfl (by rw [OBW_len])) ?_;refine xss0 ?_;refine seqNg (gc_live (i:=4) rfl (by rw [OBW_len])) ?_;refine xss0 ?_
     rw [← hb5]
     have hJ':Junk (J ++ [AO.frz (iavs cs)]):=fun o ho i => by
      rcases List.mem_append.mp ho with q | q
      ·exact hJ o q i
      ·rw [List.mem_singleton.mp q]; rfl
     refine .inl ⟨rfl,ih 0 (n + 1) (nt + 1) (bump cs b) _ (some (.str a)) (fun y hy => ho y (List.mem_cons_of_mem _ hy)) hJ' (by lia) (by rw [hb5]; simp; lia) hK⟩
    ·refine Br.no (decide_eq_false (by lia)) ?_
     have hb5:bump cs b = cs.set b (cs.getD b 0 + 1):=by unfold bump; rw [if_neg h3]
     have hl:b < cs.length:=by lia
     refine xss0 ?_;refine seqN ?_;refine xss1 ?_;refine sStoreI rfl ?_;refine fB ?_;refine xFrz ?_;refine xSubN ?_;refine xN l105_count rfl ?_;refine xN l105_b rfl ?_
     refine ⟨_,_,rfl,(subsLoc (rd_list OBW_last)).trans ((getIx_nat (by lia)).trans (iavs_get hl)),_,_,rfl,?_⟩
     refine fI ?_
     refine ⟨_,bAdd,?_⟩
     refine xN l105_count rfl ?_;refine xN l105_b rfl ?_
     refine ⟨_,_,_,_,rfl,rfl,OBW_last,setIx_nat (by lia) (by rw [iavs_len]; exact hl),seqL (by rw [List.length_set]) ?_⟩
     rw [OBW_set,iavs_set]
     refine xss1 ?_;refine sAssign1 s105_b rfl ?_;refine xInt ?_;refine seqN ?_;refine xss0 ?_;refine seqL (by rw [OBW_len,OBW_len]) ?_;refine xss0 ?_;refine seqL (by rw [OBW_len,OBW_len]) ?_;refine xss0 ?_
     rw [← hb5]
     refine .inl ⟨rfl,ih 0 (n + 1) (nt + 1) (bump cs b) J (some (.str a)) (fun y hy => ho y (List.mem_cons_of_mem _ hy)) hJ (by lia) (by rw [hb5]; simp; lia) hK⟩
   ·refine Br.no (by simpa using h2) ?_
    have e:wsR (a :: l) b n nt cs = (b,n,nt,cs):=(if_neg h1).trans (if_neg h2)
    rw [e] at hK
    refine xss1 ?_;refine sBrk ?_;refine seqB rfl ?_
    refine seqB rfl (seqB rfl (.inr ⟨rfl,hK J _ hJ⟩))
section
set_option backward.match.sparseCases false
section
variable {G:Gl} {n:Nat} {sc:Sc} {vs:VS} {ob:OB} {K:AV → OB → Prop} {KS:AF → VS → OB → Prop}
inductive kTf (T:String) (ob:OB) (K:KE) (avs:List AV) (ob1:OB):Prop
 | mk (h1:ob1.length = ob.length) (z:_) (h2:tfn T avs ob1 = some (z,ob1)) (k:K z ob1):kTf T ob K avs ob1
theorem xCallT {x:Str} {p pos:Pos} {args:List Expr} {T:String} (hg:gName G sc x = some (.cst (.type T))) (hp:plainMode G (.type T) = false) (hn:(noStar args && !args.isEmpty) = true)
  (h:runL (evs (fun e => frzO ((ev G n).e sc e)) args) vs ob (kTf T ob K)):runE ((ev G (n + 1)).e sc (.Call (.Name x p) args [] pos)) vs ob K:=by
 obtain ⟨avs,ob1,e1,hl,z,e3,k⟩:=h
 exact ⟨z,ob1,gcE_len (eCall_c hg hn (by rw [evs_f hp]; exact e1) e3) hl,k⟩
theorem gcE_g {f:FE} {z:AV} {ob2 ob3:OB} (e:f vs ob = some (z,ob2)) (h:gcN (.ret z) [] (ob2.length - ob.length) ob2 = ob3):gcE f vs ob = some (z,ob3):=by
 unfold gcE
 rw [e,Option.map_some,h]
inductive kCC (G:Gl) (n:Nat) (C fI:Addr) (ob:OB) (K:KE) (avs:List AV) (ob1:OB):Prop
 | mk (z:_) (ob2:_) (ob3:_) (h1:callC G (ev G n) C fI avs ob1 = some (z,ob2)) (h2:gcN (.ret z) [] (ob2.length - ob.length) ob2 = ob3) (k:K z ob3):kCC G n C fI ob K avs ob1
theorem callV_c {C fI:Addr} {r:Ev} {avs:List AV} (hi:G.init C = some fI):callV G r (.ref C) avs ob = callC G r C fI avs ob:=by
 show callR G r C avs ob = _
 unfold callR
 rw [hi]
theorem xCallC {x:Str} {p pos:Pos} {args:List Expr} {C fI:Addr} (hg:gName G sc x = some (.cst (.ref C))) (hi:G.init C = some fI) (hn:(noStar args && !args.isEmpty) = true)
  (h:runL (evs (fun e => (ev G n).e sc e) args) vs ob (kCC G n C fI ob K)):runE ((ev G (n + 1)).e sc (.Call (.Name x p) args [] pos)) vs ob K:=by
 obtain ⟨avs,ob1,e1,z,ob2,ob3,e3,e4,k⟩:=h
 exact ⟨z,ob3,gcE_g (eCall_c hg hn (by rw [evs_t (show plainMode G (.ref C) = true from by show (G.init C).isSome = true; rw [hi]; rfl)]; exact e1) ((callV_c hi).trans e3)) e4,k⟩
theorem instLoc {j:Nat} {C:Addr} {ns:List Str} {xs:List AV} (h:ob[j]? = some (.inst C ns xs)):instOf ob (.loc j) = some (C,ns,xs):=bindI h rfl
theorem instLocF {j:Nat} {C:Addr} {ns:List Str} {xs:List AV} (h:ob[j]? = some (.ifrz C ns xs)):instOf ob (.loc j) = some (C,ns,xs):=bindI h rfl
theorem callC_of {r:Ev} {C fI:Addr} {fi:FI} {avs:List AV} {ob':OB} (hf:G.fn fI = some fi) (hk:fi.kwn = []) (h:callS r fi (.loc ob.length :: avs) [] (ob ++ [.inst C [] []]) = some (.none,ob')):callC G r C fI avs ob = some (.loc ob.length,ob') :=
 bindI hf (ifI hk (bindI h rfl))
theorem callS_of {r:Ev} {fi:FI} {avs kvs:List AV} {V:VS} {z:AV} {ob':OB} (hc:avs.length = fi.npos ∧ kvs.length = fi.kwn.length ∧ (avs ++ kvs).all notClo = true) (hV:setVs (vs₀ fi.fd) fi.is (avs ++ kvs ++ if fi.kwd then [.edict] else []) = V)
  (h:runS (ss (r.s (fsc fi)) fi.body) V ob fun fl _ ob1 => ((fl = .ret z ∧ notClo z = true) ∨ (fl = .next ∧ z = .none)) ∧ ob1 = ob'):callS r fi avs kvs ob = some (z,ob'):=by
 obtain ⟨fl,vs1,ob1,e1,hz,rfl⟩:=h
 refine ifI hc ((congrArg (fun V => (ss (r.s (fsc fi)) fi.body V ob).bind retF) hV).trans (bindI e1 ?_))
 rcases hz with ⟨rfl,hz⟩ | ⟨rfl,rfl⟩
 ·exact if_pos hz
 ·rfl
end
theorem tupOk {zs:List AV} {ob:OB} (h:zs.length ≤ sizeLine):tfn "tuple" [.lst zs] ob = some (.tup zs,ob):=by
 have:tfn "tuple" [.lst zs] ob = (if zs.length ≤ sizeLine then some (.tup zs) else none).map fun z => (z,ob):=rfl
 rw [this,if_pos h]; rfl
noncomputable def chs (x:Str):List Str:=x.cps.toList.map fun ch => ⟨#[ch]⟩
theorem signs_chs (x:Str):signs x = (chs x).map .str:=by unfold signs chs; rw [List.map_map]; rfl
noncomputable def wsV (x:Str):Nat × Nat × Nat × List Int:=wsR (chs x) 0 0 0 []
noncomputable def wsNs:List Str:=["is_simple","norm","nt","n","raw"]
noncomputable def wsXs (x:Str):List AV:=[.bool (decide (((wsV x).2.2.2.length:Int) ≤ 1)),.tup [.tup (iavs (wsV x).2.2.2),.int (wsV x).1],.int (wsV x).2.2.1,.int (wsV x).2.1,.str x]
noncomputable def wsOk (x:Str):Bool:=x.cps.all (· < 128) && decide (x.cps.size ≤ 1000) && (chs x).all PyData.strOk
theorem wsR_len:∀ (l:List Str) (b n nt:Nat) (cs:List Int),b + l.length ≤ 1000 → cs.length ≤ 1001 → (wsR l b n nt cs).2.2.2.length ≤ 1001
 | [],_,_,_,_,_,h => h
 | a :: l,b,n,nt,cs,hb,h => by
  rw [List.length_cons] at hb
  unfold wsR
  split
  ·exact wsR_len l _ _ _ _ (by lia) h
  ·split
   ·refine wsR_len l _ _ _ _ (by lia) ?_
    unfold bump
    split <;> simp <;> lia
   ·exact h
theorem wsCall {F:Nat} {x:Str} {Ob:OB} (hx:wsOk x = true) (hF:30 ≤ F) (hr:∀ i,Ob.length ≤ i → Ob.any (refAO i) = false) :
  ∃ ob2,callC GP0 (ev GP0 F) 150 105 [.str x] Ob = some (.loc Ob.length,ob2) ∧ gcN (.ret (.loc Ob.length)) [] (ob2.length - Ob.length) ob2 = Ob ++ [.inst 150 wsNs (wsXs x)]:=by
 obtain ⟨f,rfl⟩:=Nat.exists_eq_add_of_le' hF
 unfold wsOk at hx
 rw [Bool.and_eq_true,Bool.and_eq_true] at hx
 obtain ⟨⟨hx1,hx2⟩,hx3⟩:=hx
 have hx2:=of_decide_eq_true hx2
 have hs:sizeLine = 2 ^ 24:=rfl
 have hl:(chs x).length ≤ 1000:=by unfold chs; simpa using hx2
 have hlen:(wsV x).2.2.2.length ≤ 1001:=wsR_len (chs x) 0 0 0 [] (by lia) (by simp)
 have key:∃ J o,Junk J ∧ (∀ i,refAO i o = false) ∧ callS (ev GP0 (f + 30)) fi105 [.loc Ob.length,.str x] [] (Ob ++ [.inst 150 [] []]) = some (.none,OBW Ob wsNs (wsXs x) J o):=by
  suffices h:runS (ss ((ev GP0 (f + 30)).s (fsc fi105)) fi105.body) [some (.loc Ob.length),some (.str x),none,none,none,none,none,none,none,none,none,none] (Ob ++ [.inst 150 [] []]) (fun fl _ ob1 => fl = .next ∧ ∃ J o,Junk J ∧ (∀ i,refAO i o = false) ∧ ob1 = OBW Ob wsNs (wsXs x) J o) by
   obtain ⟨fl,vs1,ob1,e1,rfl,J,o,hJ,ho,rfl⟩:=h
   refine ⟨J,o,hJ,ho,callS_of ⟨by rfl,by rfl,by rfl⟩ (by kernel_rfl) ⟨_,_,_,e1,.inr ⟨rfl,rfl⟩,rfl⟩⟩
  refine xss1 ?_;refine sAttr rfl ?_;refine xN l105_ws rfl ?_;refine xN l105_self rfl ?_
  refine ⟨_,_,_,_,rfl,at_mid rfl,⟨rfl,by decide,by rfl⟩,seqL (by rw [List.length_set]) ?_⟩
  rw [set_mid rfl]
  refine xss1 ?_;refine sTup1 s105_S s105_T ⟨by decide,rfl⟩ ?_;refine xTup rfl ?_;refine xEvs1 ?_;refine xFrz ?_;refine xAttrC rfl ?_;refine xG g105_Whitespace ?_
  refine ⟨150,.str " ",rfl,by rfl,_,_,rfl,?_⟩
  refine xEvs1 ?_;refine xFrz ?_;refine xAttrC rfl ?_;refine xG g105_Whitespace ?_
  refine ⟨150,.str "\t",rfl,by rfl,_,_,rfl,?_⟩
  refine xEvs0 ?_
  refine ⟨⟨rfl,two_sz⟩,_,_,rfl,seqN ?_⟩
  refine xss1 ?_;refine sAssignE s105_count ?_
  have e0:Ob ++ [AO.inst 150 ["raw"] [AV.str x]] ++ [AO.list []] = OBW Ob ["raw"] [.str x] [] (.list (iavs [])):=rfl
  show seqK _ _ _ _ _ _ (Ob ++ [AO.inst 150 ["raw"] [AV.str x]] ++ [AO.list []])
  rw [e0]
  refine seqNg (gc_live (i:=4) rfl (by rw [OBW_len]; simp)) ?_;refine xss1 ?_;refine sTri s105_b s105_n s105_nt ?_;refine xInt ?_
  refine ⟨rfl,seqN ?_⟩
  refine xss1 ?_;refine sForO (tg:=.one 8) (by kernel_rfl) rfl rfl ?_;refine eIt_s rfl ?_;refine xFrz ?_;refine xAttrI rfl ?_;refine xN l105_self rfl ?_
  refine ⟨_,_,_,.str x,rfl,instLoc OBW_inst,by rfl,by rfl,rfl,_,_,rfl,_,rfl,⟨hx1,by lia⟩,?_⟩
  rw [signs_chs]
  have ec:(Ob ++ [AO.inst 150 ["raw"] [AV.str x]]).length = Ob.length + 1 + ([]:OB).length:=by simp
  rw [ec]
  refine ws_loop (f:=f + 9) (k:=Ob.length) (chs x) 0 0 0 [] [] none (fun a ha => List.all_eq_true.mp hx3 a ha) (fun _ h => nomatch h) (by lia) (by simp) fun J ch hJ => ?_
  refine seqNg (gc_live (i:=4) rfl (by rw [OBW_len])) ?_
  show runS _ (VW Ob.length x (Ob.length + 1 + J.length) (wsV x).1 (wsV x).2.1 (wsV x).2.2.1 ch) (OBW Ob ["raw"] [.str x] J (.list (iavs (wsV x).2.2.2))) _
  have hwx:wsXs x = [.bool (decide (((wsV x).2.2.2.length:Int) ≤ 1)),.tup [.tup (iavs (wsV x).2.2.2),.int (wsV x).1],.int (wsV x).2.2.1,.int (wsV x).2.1,.str x]:=rfl
  rw [hwx]
  generalize wsV x = W at *
  obtain ⟨b,n,nt,cs⟩:=W
  dsimp only at *
  refine xss1 ?_;refine sAttr rfl ?_;refine xN l105_n rfl ?_;refine xN l105_self rfl ?_
  refine ⟨_,_,_,_,rfl,OBW_inst,⟨rfl,by decide,by rfl⟩,seqL (by rw [List.length_set]) ?_⟩
  rw [OBW_seti]
  refine xss1 ?_;refine sAttr rfl ?_;refine xN l105_nt rfl ?_;refine xN l105_self rfl ?_
  refine ⟨_,_,_,_,rfl,OBW_inst,⟨rfl,by decide,by rfl⟩,seqL (by rw [List.length_set]) ?_⟩
  rw [OBW_seti]
  refine xss1 ?_;refine sAttr rfl ?_;refine xTup rfl ?_;refine xEvs1 ?_;refine xFrz ?_;refine xCallT g105_tuple rfl rfl ?_;refine xEvs1 ?_;refine fNO l105_count rfl (tr_list OBW_last) ?_;refine xEvs0 ?_
  rw [OBW_set]
  refine ⟨by rw [OBW_len,OBW_len],_,tupOk (by rw [iavs_len]; lia),_,_,rfl,?_⟩
  refine xEvs1 ?_;refine fN l105_b rfl rfl ?_;refine xEvs0 ?_
  refine ⟨⟨rfl,two_sz⟩,?_⟩
  refine xN l105_self rfl ?_
  refine ⟨_,_,_,_,rfl,OBW_inst,⟨rfl,by decide,by rfl⟩,seqL (by rw [List.length_set,OBW_len,OBW_len]) ?_⟩
  rw [OBW_seti]
  refine xss1 ?_;refine sAttr rfl ?_;refine xCmpE rfl ?_;refine xFrz ?_;refine xCallL g105_len rfl rfl ?_;refine xEvs1 ?_;refine xN l105_count rfl ?_;refine xEvs0 ?_
  refine ⟨rfl,_,lenRd (rd_frz OBW_last) rfl (by rw [iavs_len]; lia),_,_,rfl,?_⟩
  refine fI ?_
  refine ⟨_,cLeI,?_⟩
  refine xN l105_self rfl ?_
  refine ⟨_,_,_,_,rfl,OBW_inst,⟨rfl,by decide,by rfl⟩,seqL (by rw [List.length_set]) ?_⟩
  rw [OBW_seti,iavs_len]
  exact xss0 ⟨rfl,J,_,hJ,fun _ => rfl,rfl⟩
 obtain ⟨J,o,hJ,ho,e⟩:=key
 refine ⟨_,callC_of (fi:=fi105) (by rfl) (by rfl) e,?_⟩
 have e1:OBW Ob wsNs (wsXs x) J o = (Ob ++ [.inst 150 wsNs (wsXs x)]) ++ (J ++ [o]):=by unfold OBW; simp
 have e2:(OBW Ob wsNs (wsXs x) J o).length - Ob.length = (J ++ [o]).length + 1:=by rw [OBW_len]; simp; lia
 rw [e2,e1,gc_junk]
 ·rw [gcN_succ]
  have:(Ob ++ [AO.inst 150 wsNs (wsXs x)]).length - 1 = Ob.length:=by simp
  rw [this]
  simp [refAF,refAV]
 ·intro o' ho' i
  rcases List.mem_append.mp ho' with q | q
  ·exact hJ o' q i
  ·rw [List.mem_singleton.mp q]; exact ho i
 ·intro i hi
  have hi':Ob.length + 1 ≤ i:=by simpa using hi
  refine ⟨?_,rfl,?_⟩
  ·show (Ob.length == i) = false
   simp; lia
  ·rw [List.any_append,hr i (by lia)]; rfl
end
section
section
variable {G:Gl} {n:Nat} {sc:Sc} {vs:VS} {ob:OB} {K:AV → OB → Prop} {KS:AF → VS → OB → Prop} {KL:List AV → OB → Prop} {KB:Bool → OB → Prop}
theorem xEvk0 {f:Expr → FE} (k:KL [] ob):runL (evk f []) vs ob KL:=⟨_,_,rfl,k⟩
noncomputable abbrev kK2 (KL:List AV → OB → Prop) (a:AV):List AV → OB → Prop:=fun as ob2 => KL (a :: as) ob2
noncomputable abbrev kK1 (f:Expr → FE) (es:List Keyword) (vs:VS) (KL:List AV → OB → Prop):KE:=fun a ob1 => runL (evk f es) vs ob1 (kK2 KL a)
theorem xEvk1 {f:Expr → FE} {e:Keyword} {es:List Keyword} (h:runE (f e.value) vs ob (kK1 f es vs KL)):runL (evk f (e :: es)) vs ob KL:=by
 obtain ⟨_,_,e1,_,ob2,e2,k⟩:=h
 exact ⟨_,ob2,bindI e1 (bindI e2 rfl),k⟩
theorem xBool {b:Bool} {kk:Nat} {p:Pos} (k:K (.bool b) ob):runE ((ev G (n + 1)).e sc (.Constant (.bool b) kk p)) vs ob K:=⟨_,_,rfl,k⟩
theorem xCallTP {x:Str} {p pos:Pos} {args:List Expr} {T:String} (hg:gName G sc x = some (.cst (.type T))) (hp:plainMode G (.type T) = true) (hn:(noStar args && !args.isEmpty) = true)
  (h:runL (evs (fun e => (ev G n).e sc e) args) vs ob (kTf T ob K)):runE ((ev G (n + 1)).e sc (.Call (.Name x p) args [] pos)) vs ob K:=by
 obtain ⟨avs,ob1,e1,hl,z,e3,k⟩:=h
 exact ⟨z,ob1,gcE_len (eCall_c hg hn (by rw [evs_t hp]; exact e1) e3) hl,k⟩
inductive kU3 (G:Gl) (n:Nat) (ob:OB) (K:KE) (a:AV) (fi:FI) (avs:List AV) (kvs:List AV) (ob3:OB):Prop
 | mk (z:_) (ob4:_) (ob5:_) (h1:callS (ev G n) fi (a :: avs) kvs ob3 = some (z,ob4)) (h2:gcN (.ret z) [] (ob4.length - ob.length) ob4 = ob5) (k:K z ob5):kU3 G n ob K a fi avs kvs ob3
noncomputable abbrev kU2 (G:Gl) (n:Nat) (sc:Sc) (vs:VS) (ob:OB) (kws:List Keyword) (K:KE) (a:AV) (fi:FI):List AV → OB → Prop:=fun avs ob2 => runL (evk (fun e => frzO ((ev G n).e sc e)) kws) vs ob2 (kU3 G n ob K a fi avs)
inductive kU1 (G:Gl) (n:Nat) (sc:Sc) (vs:VS) (ob:OB) (name:Str) (args:List Expr) (kws:List Keyword) (K:KE) (a:AV) (ob1:OB):Prop
 | mk (C:_) (ns:_) (xs:_) (f:_) (fi:_) (h1:instOf ob1 a = some (C,ns,xs)) (h2:ns.contains name = false) (h3:G.meth C name = some f) (h4:G.fn f = some fi) (h5:fi.kwn = kwNames kws) (k:runL (evs (fun e => frzO ((ev G n).e sc e)) args) vs ob1 (kU2 G n sc vs ob kws K a fi)):kU1 G n sc vs ob name args kws K a ob1
theorem eMeth_u {o:Expr} {name:Str} {apos pos:Pos} {args:List Expr} {kws:List Keyword} {z:Option (AV × OB)} (hc:methOk o args kws apos pos = true) (hu:G.user name = true) (h:eMethU G (ev G n) sc o name args kws vs ob = z):eMeth G (ev G n) sc o name apos args kws pos vs ob = z:=ifI hc (ifI hu h)
theorem xMethU {o:Expr} {name:Str} {apos pos:Pos} {args:List Expr} {kws:List Keyword} (hc:methOk o args kws apos pos = true) (hu:G.user name = true)
  (h:runE ((ev G n).e sc o) vs ob (kU1 G n sc vs ob name args kws K)):runE ((ev G (n + 1)).e sc (.Call (.Attribute o name apos) args kws pos)) vs ob K:=by
 obtain ⟨_,_,e1,_,_,_,_,_,h1,h2,h3,h4,h5,_,_,e2,_,_,e3,z,_,ob5,e4,e5,k⟩:=h
 exact ⟨z,ob5,gcE_g (eMeth_u hc hu (bindI e1 (bindI h1 (ifJ (nT h2) (bindI h3 (bindI h4 (ifI h5 (bindI e2 (bindI e3 e4))))))))) e5,k⟩
inductive kB2 (G:Gl) (ob:OB) (K:KE) (a:AV) (id:String) (avs:List AV) (ob2:OB):Prop
 | mk (z:_) (h1:mfn G id (a :: avs) ob2 = some (z,ob2)) (h2:ob2.length = ob.length) (k:K z ob2):kB2 G ob K a id avs ob2
inductive kB1 (G:Gl) (n:Nat) (sc:Sc) (vs:VS) (ob:OB) (name:Str) (args:List Expr) (K:KE) (a:AV) (ob1:OB):Prop
 | mk (T:_) (id:_) (h1:tyOf G ob1 a = some T) (h2:mId T name = some id) (k:runL (evs (fun e => frz ((ev G n).e sc e)) args) vs ob1 (kB2 G ob K a id)):kB1 G n sc vs ob name args K a ob1
theorem xMethB {o:Expr} {name:Str} {apos pos:Pos} {args:List Expr} (hc:methOk o args [] apos pos = true) (hu:G.user name = false) (hne:(name == ("append" : Str) || name == ("reverse" : Str)) = false)
  (h:runE (frz ((ev G n).e sc o)) vs ob (kB1 G n sc vs ob name args K)):runE ((ev G (n + 1)).e sc (.Call (.Attribute o name apos) args [] pos)) vs ob K:=by
 obtain ⟨_,_,e1,_,_,h1,h2,_,ob2,e2,z,e3,e4,k⟩:=h
 exact ⟨z,ob2,gcE_len ((eMeth_b hc hu).trans (eMethB_n hne e1 h1 h2 e2 e3)) e4,k⟩
noncomputable def compOk (sc:Sc) (scope:Scope) (iter:Expr):Bool:=(scope.kind == .function) && distinct scope.names && locOnce scope && cloFree sc.names scope.names && !isSet iter
noncomputable abbrev kCo2 (K:KE):List AV → OB → Prop:=fun zs ob2 => K (.lst zs) ob2
noncomputable abbrev kCo (G:Gl) (n:Nat) (sc:Sc) (scope:Scope) (tg:TgK) (cond:FB) (elt:Expr) (V:VS) (K:KE):List AV → OB → Prop:=fun xs ob1 => runL (compF tg cond (frz ((ev G n).e (compSc sc scope) elt)) xs []) V ob1 (kCo2 K)
theorem eComp_of {elt target iter:Expr} {ifs:List Expr} {scope:Scope} {tg:TgK} {cond:FB} {V:VS} (hc:compOk sc scope iter = true) (h1:eTg (compSc sc scope) target = some tg) (h2:ifsF (ev G n) (compSc sc scope) ifs = some cond) (hV:freeVS sc.names scope.names vs = V)
  (h:runL (eIt G (ev G n) sc iter) vs ob (kCo G n sc scope tg cond elt V K)):runE (eComp G (ev G n) sc elt [⟨target,iter,ifs,0⟩] scope) vs ob K:=by
 obtain ⟨_,_,e1,_,ob2,e2,k⟩:=h
 exact ⟨_,ob2,ifI ((congrArg (fun b => b && (0:Nat) == 0) hc).trans rfl) (bindI h1 (bindI h2 (bindI e1 (mapI (by rw [hV]; exact e2) rfl)))),k⟩
theorem xComp {elt target iter:Expr} {ifs:List Expr} {scope:Scope} {p:Pos} {tg:TgK} {cond:FB} {V:VS} (hc:compOk sc scope iter = true) (h1:eTg (compSc sc scope) target = some tg) (h2:ifsF (ev G n) (compSc sc scope) ifs = some cond) (hV:freeVS sc.names scope.names vs = V)
  (h:runL (eIt G (ev G n) sc iter) vs ob (kCo G n sc scope tg cond elt V K)):runE ((ev G (n + 1)).e sc (.ListComp elt [⟨target,iter,ifs,0⟩] scope p)) vs ob K:=eComp_of hc h1 h2 hV h
noncomputable abbrev kSet (i:Nat) (vs:VS) (KS:KSt):KE:=fun a ob2 => KS .next (setV vs i a) ob2
theorem sAssignC {x:Str} {px p cp:Pos} {i:Nat} {elt target iter:Expr} {ifs:List Expr} {scope:Scope} {tg:TgK} {cond:FB} {V:VS} (hx:stIx sc x = some i) (hc:compOk sc scope iter = true) (h1:eTg (compSc sc scope) target = some tg) (h2:ifsF (ev G n) (compSc sc scope) ifs = some cond) (hV:freeVS sc.names scope.names vs = V)
  (h:runL (eIt G (ev G n) sc iter) vs ob (kCo G n sc scope tg cond elt V (kSet i vs KS))):runS ((ev G (n + 1)).s sc (.Assign [.Name x px] (.ListComp elt [⟨target,iter,ifs,0⟩] scope cp) p)) vs ob KS:=by
 obtain ⟨a,ob1,e1,k⟩:=eComp_of hc h1 h2 hV h
 exact ⟨_,_,_,bindI hx (bindI e1 rfl),k⟩
variable {tg:TgK} {cond:FB} {elt:FE}
theorem xC0 {acc:List AV} (hl:acc.length ≤ sizeLine) (k:KL acc ob):runL (compF tg cond elt [] acc) vs ob KL:=⟨_,_,if_pos hl,k⟩
theorem xC1 {acc:List AV} {x:AV} {xs:List AV} {vs1:VS} (hl:acc.length < sizeLine) (h1:tgV tg x vs = some vs1) (h:runB cond vs1 ob fun b ob1 => Br b (runE elt vs1 ob1 fun y ob2 => y.tree = true ∧ runL (compF tg cond elt xs (acc ++ [y])) vs1 ob2 KL) (runL (compF tg cond elt xs acc) vs1 ob1 KL)):runL (compF tg cond elt (x :: xs) acc) vs ob KL:=by
 obtain ⟨b,ob1,e1,⟨rfl,y,ob2,e2,ht,zs,ob3,e3,k⟩ | ⟨rfl,zs,ob3,e3,k⟩⟩:=h
 ·exact ⟨zs,ob3,(if_pos hl).trans (bindI h1 (bindI e1 (bindI e2 ((if_pos ht).trans e3)))),k⟩
 ·exact ⟨zs,ob3,(if_pos hl).trans (bindI h1 (bindI e1 e3)),k⟩
theorem xC {acc:List AV} {x:AV} {xs:List AV} {vs1:VS} (hl:acc.length < sizeLine) (h1:tgV tg x vs = some vs1) (h:runE elt vs1 ob fun y ob2 => y.tree = true ∧ runL (compF tg (fun _ ob => some (true,ob)) elt xs (acc ++ [y])) vs1 ob2 KL):runL (compF tg (fun _ ob => some (true,ob)) elt (x :: xs) acc) vs ob KL:=xC1 hl h1 ⟨_,_,rfl,.t h⟩
end
theorem set_app {ob B:OB} {j:Nat} {x:AO} (h:j < ob.length):(ob ++ B).set j x = ob.set j x ++ B:=List.set_append_left _ _ h
theorem at_app {ob B:OB} {j:Nat} {x:AO} (h:ob[j]? = some x):(ob ++ B)[j]? = some x:=by
 have:=(List.getElem?_eq_some_iff.mp h).1
 rw [List.getElem?_append_left this]; exact h
theorem lt_of_at {ob:OB} {j:Nat} {x:AO} (h:ob[j]? = some x):j < ob.length:=(List.getElem?_eq_some_iff.mp h).1
theorem l199_self:ldIx (fsc fi199) "self" = some 0:=by kernel_rfl
theorem s199_self:stIx (fsc fi199) "self" = some 0:=by kernel_rfl
theorem l199_value:ldIx (fsc fi199) "value" = some 1:=by kernel_rfl
theorem s199_value:stIx (fsc fi199) "value" = some 1:=by kernel_rfl
theorem l199_name:ldIx (fsc fi199) "name" = some 2:=by kernel_rfl
theorem s199_name:stIx (fsc fi199) "name" = some 2:=by kernel_rfl
theorem l199_regex:ldIx (fsc fi199) "regex" = some 3:=by kernel_rfl
theorem s199_regex:stIx (fsc fi199) "regex" = some 3:=by kernel_rfl
theorem g199_type:gName GP0 (fsc fi199) "type" = some (.cst (.type "type")):=by kernel_rfl
theorem g199_str:gName GP0 (fsc fi199) "str" = some (.cst (.type "str")):=by kernel_rfl
theorem g199__name_disallowed_re:gName GP0 (fsc fi199) "_name_disallowed_re" = some (.cst (.ref 164)):=by kernel_rfl
theorem g199__value_disallowed_re:gName GP0 (fsc fi199) "_value_disallowed_re" = some (.cst (.ref 169)):=by kernel_rfl
theorem l237_self:ldIx (fsc fi237) "self" = some 0:=by kernel_rfl
theorem s237_self:stIx (fsc fi237) "self" = some 0:=by kernel_rfl
theorem l237_name:ldIx (fsc fi237) "name" = some 1:=by kernel_rfl
theorem s237_name:stIx (fsc fi237) "name" = some 1:=by kernel_rfl
theorem l262_self:ldIx (fsc fi262) "self" = some 0:=by kernel_rfl
theorem s262_self:stIx (fsc fi262) "self" = some 0:=by kernel_rfl
theorem l295_self:ldIx (fsc fi295) "self" = some 0:=by kernel_rfl
theorem s295_self:stIx (fsc fi295) "self" = some 0:=by kernel_rfl
theorem l295__name:ldIx (fsc fi295) "_name" = some 1:=by kernel_rfl
theorem s295__name:stIx (fsc fi295) "_name" = some 1:=by kernel_rfl
theorem l295__value:ldIx (fsc fi295) "_value" = some 2:=by kernel_rfl
theorem s295__value:stIx (fsc fi295) "_value" = some 2:=by kernel_rfl
theorem l295__params:ldIx (fsc fi295) "_params" = some 3:=by kernel_rfl
theorem s295__params:stIx (fsc fi295) "_params" = some 3:=by kernel_rfl
theorem l295_parts:ldIx (fsc fi295) "parts" = some 4:=by kernel_rfl
theorem s295_parts:stIx (fsc fi295) "parts" = some 4:=by kernel_rfl
theorem l295_k:ldIx (fsc fi295) "k" = some 5:=by kernel_rfl
theorem s295_k:stIx (fsc fi295) "k" = some 5:=by kernel_rfl
theorem l295_v:ldIx (fsc fi295) "v" = some 6:=by kernel_rfl
theorem s295_v:stIx (fsc fi295) "v" = some 6:=by kernel_rfl
noncomputable def txtOk (x:Str):Bool:=calm x && decide (x.cps.size ≤ 1000) && PyData.strOk x && !Builtin.Str.tooLong (Txt.lower x).length && !Builtin.Str.tooLong (Txt.upper x).length && PyData.strOk (Txt.lower x)
theorem txt_calm {x:Str} (h:txtOk x = true):calm x = true ∧ x.cps.size ≤ sizeLine:=by
 unfold txtOk at h
 simp only [Bool.and_eq_true,decide_eq_true_eq] at h
 have:sizeLine = 2 ^ 24:=rfl
 exact ⟨h.1.1.1.1.1,by lia⟩
theorem w199 {F k:Nat} {x:Str} {b:Bool} {ob:OB} (hx:calm x = true ∧ x.cps.size ≤ sizeLine) (hF:20 ≤ F):callS (ev GP0 F) fi199 [.loc k,.str x] [.bool b] ob = some (.str x,ob):=by
 obtain ⟨f,rfl⟩:=Nat.exists_eq_add_of_le' hF
 refine callS_of ⟨by rfl,by rfl,by rfl⟩ (V:=[some (.loc k),some (.str x),some (.bool b),none,none,none,none,none,none,none,none]) (by kernel_rfl) ?_
 refine xss1 ?_;refine sIf1 ?_;refine iCmp1 rfl rfl ?_;refine xFrz ?_;refine xCallTP g199_type rfl rfl ?_;refine xEvs1 ?_;refine xN l199_value rfl ?_;refine xEvs0 ?_
 refine ⟨rfl,_,rfl,_,_,rfl,?_⟩
 refine xFrz ?_;refine xG g199_str ?_
 refine ⟨_,_,rfl,?_⟩
 refine ⟨true,by decide,Br.t ?_⟩
 refine xss1 ?_;refine sAssign1 s199_regex rfl ?_;refine xIfE ?_
 refine iVal1 (fun _ _ => rfl) ?_
 refine fN l199_name rfl rfl ?_
 have hse:∀ p,(p = 164 ∨ p = 169) → mfn GP0 "re.Pattern.search" [.cst (.ref p),.str x] ob = some (.none,ob):=fun p hp => by
  have:mfn GP0 "re.Pattern.search" [.cst (.ref p),.str x] ob = (if GP0.pats.contains p = true ∧ calm x = true ∧ x.cps.size ≤ sizeLine then some (.none) else none).map fun z => (z,ob):=rfl
  rw [this,if_pos ⟨by rcases hp with rfl | rfl <;> rfl,hx⟩]; rfl
 cases b with
 | true =>
  refine ⟨_,rfl,Br.t ?_⟩
  refine xG g199__name_disallowed_re ?_;refine seqN ?_;refine xss1 ?_;refine sIf1 ?_
  refine iVal1 (fun _ _ => rfl) ?_
  refine xFrz ?_;refine xMethB rfl rfl (by decide +kernel) ?_;refine xFrz ?_;refine xN l199_regex rfl ?_
  refine ⟨_,_,rfl,?_⟩
  refine ⟨"re.Pattern","re.Pattern.search",by rfl,by decide +kernel,?_⟩
  refine xEvs1 ?_;refine fN l199_value rfl rfl ?_;refine xEvs0 ?_
  refine ⟨_,hse 164 (.inl rfl),rfl,_,_,rfl,_,rfl,Br.f ?_⟩
  refine xss0 ?_;refine seqN ?_;refine xss1 ?_;refine sRet1 (.inl rfl) ?_;refine xN l199_value rfl ?_
  exact seqR (seqR ⟨.inl ⟨rfl,rfl⟩,rfl⟩)
 | false =>
  refine ⟨_,rfl,Br.f ?_⟩
  refine xG g199__value_disallowed_re ?_;refine seqN ?_;refine xss1 ?_;refine sIf1 ?_
  refine iVal1 (fun _ _ => rfl) ?_
  refine xFrz ?_;refine xMethB rfl rfl (by decide +kernel) ?_;refine xFrz ?_;refine xN l199_regex rfl ?_
  refine ⟨_,_,rfl,?_⟩
  refine ⟨"re.Pattern","re.Pattern.search",by rfl,by decide +kernel,?_⟩
  refine xEvs1 ?_;refine fN l199_value rfl rfl ?_;refine xEvs0 ?_
  refine ⟨_,hse 169 (.inr rfl),rfl,_,_,rfl,_,rfl,Br.f ?_⟩
  refine xss0 ?_;refine seqN ?_;refine xss1 ?_;refine sRet1 (.inl rfl) ?_;refine xN l199_value rfl ?_
  exact seqR (seqR ⟨.inl ⟨rfl,rfl⟩,rfl⟩)
end
section
section
variable {G:Gl} {n:Nat} {sc:Sc} {vs:VS} {ob:OB} {K:AV → OB → Prop} {KS:AF → VS → OB → Prop} {KL:List AV → OB → Prop} {KB:Bool → OB → Prop}
inductive kIsN (op:CmpOp) (KB:KBo) (a:AV) (ob1:OB):Prop
 | mk (q:_) (ob2:_) (z:_) (h1:a.k? = none) (h2:tr ob1 a = some (q,ob2)) (h3:copF op q .none = some z) (k:KB z ob2):kIsN op KB a ob1
theorem iNone {l y:Expr} {op:CmpOp} {p:Pos} (hq:((op == .Is || op == .IsNot) && isNoneConst y) = true) (h:runE ((ev G n).e sc l) vs ob (kIsN op KB)):runB ((ev G (n + 1)).i sc (.Compare l [op] [y] p)) vs ob KB:=by
 obtain ⟨_,_,e1,_,ob2,z,h1,e2,e3,k⟩:=h
 exact ⟨z,ob2,ifI hq (bindI e1 (by dsimp only; rw [h1]; exact bindI e2 (mapI e3 rfl))),k⟩
theorem sFor0 {target iter:Expr} {body orelse:List Stmt} {p:Pos} {tg:TgK} {ob':OB} (h1:eTg sc target = some tg) (h2:isSet iter = false) (h3:eIt0 (ev G n) sc iter vs ob = some ob') (h:runS (ss ((ev G n).s sc) orelse) vs ob' KS) :
  runS ((ev G (n + 1)).s sc (.For target iter body orelse p)) vs ob KS:=by
 obtain ⟨fl,vs2,ob2,e2,k⟩:=h
 exact ⟨fl,vs2,ob2,ifJ (nT h2) (bindI h1 (by rw [h3]; exact e2)),k⟩
theorem gc_top {fl:AF} {P:OB} {o:AO} {n:Nat} (hn:n = 1) (h1:refAF P.length fl = false) (h2:P.any (refAO P.length) = false) (h3:refAO P.length o = false):gcN fl [] n (P ++ [o]) = P:=by
 subst hn
 rw [gcN_succ]
 have:(P ++ [o]).length - 1 = P.length:=by simp
 rw [this,h1,List.any_append,h2]
 refine (if_neg ?_).trans List.dropLast_concat
 show ¬((false || false) || (false || (refAO P.length o || false))) = true
 rw [h3]; decide
end
noncomputable def NoRef (ob:OB):Prop:=∀ i,ob.length ≤ i → ob.any (refAO i) = false
noncomputable def MixAt (ob:OB) (k j:Nat) (L:List AV):Prop:=ob[k]? = some (.inst 298 ["_headers"] [.loc j]) ∧ ob[j]? = some (.list L)
theorem no_hdr (x:Str) (h:(["_headers"]:List Str).contains x = false):(["_headers"]:List Str).contains x = false:=h
theorem w295 {F k j:Nat} {nm tx:Str} {L:List AV} {ob:OB} (hm:MixAt ob k j L) (hL:L.length ≤ 1000) (h1:txtOk nm = true) (h2:txtOk tx = true) (hF:40 ≤ F) :
  callS (ev GP0 F) fi295 [.loc k,.str nm,.str tx] [] ob = some (.none,ob.set j (.list (L ++ [.tup [.str nm,.str tx]])) ++ [.frz [.str tx]]):=by
 obtain ⟨f,rfl⟩:=Nat.exists_eq_add_of_le' hF
 obtain ⟨hk,hj⟩:=hm
 have hs:sizeLine = 2 ^ 24:=rfl
 have ej:=lt_of_at hj
 refine callS_of ⟨by rfl,by rfl,by rfl⟩ (V:=[some (.loc k),some (.str nm),some (.str tx),some .edict,none,none,none,none]) (by kernel_rfl) ?_
 refine xss1 ?_;refine sAssignE s295_parts ?_;refine seqNg (gc_live (i:=4) rfl (by simp)) ?_;refine xss1 ?_;refine sIf1 ?_;refine iNone rfl ?_;refine xN l295__value rfl ?_
 refine ⟨_,_,true,rfl,rfl,rfl,Br.t ?_⟩
 refine xss1 ?_;refine sAssign1 s295__value rfl ?_;refine xMethU rfl (by rfl) ?_;refine xN l295_self rfl ?_
 refine ⟨298,["_headers"],[.loc j],199,fi199,instLoc (at_app hk),by decide +kernel,by rfl,by rfl,by rfl,?_⟩
 refine xEvs1 ?_;refine fNO l295__value rfl rfl ?_;refine xEvs0 ?_;refine xEvk1 ?_;refine xFrzO ?_;refine xBool ?_
 refine ⟨_,_,rfl,?_⟩
 refine xEvk0 ?_
 refine ⟨_,_,_,w199 (txt_calm h2) (by lia),gc_same,seqN ?_⟩
 refine xss1 ?_;refine sExpr rfl ?_;refine xAppend rfl rfl rfl rfl ?_;refine xN l295_parts rfl ?_;refine fN l295__value rfl rfl ?_
 refine ⟨_,_,_,rfl,at_mid rfl,at_mid rfl,rfl,by simp,rfl,seqL (by rw [List.length_set]) (xss0 (seqL (by rw [List.length_set]) ?_))⟩
 rw [set_mid rfl]
 refine xss1 ?_;refine sFor0 (tg:=.two 5 6) (ob':=ob ++ [.list ([] ++ [.str tx])]) (by kernel_rfl) rfl (by kernel_rfl) ?_;refine xss0 ?_;refine seqN ?_;refine xss1 ?_;refine sExpr rfl ?_;refine xAppend rfl rfl rfl rfl ?_;refine xAttrI rfl ?_;refine xN l295_self rfl ?_
 refine ⟨298,["_headers"],[.loc j],.loc j,rfl,instLoc (at_app hk),by rfl,by rfl,rfl,?_⟩
 refine xFrz ?_;refine xTup rfl ?_;refine xEvs1 ?_;refine xFrz ?_;refine xMethU rfl (by rfl) ?_;refine xN l295_self rfl ?_
 refine ⟨298,["_headers"],[.loc j],199,fi199,instLoc (at_app hk),by decide +kernel,by rfl,by rfl,by rfl,?_⟩
 refine xEvs1 ?_;refine fNO l295__name rfl rfl ?_;refine xEvs0 ?_;refine xEvk1 ?_;refine xFrzO ?_;refine xBool ?_
 refine ⟨_,_,rfl,?_⟩
 refine xEvk0 ?_
 refine ⟨_,_,_,w199 (txt_calm h1) (by lia),gc_same,?_⟩
 refine ⟨_,_,rfl,?_⟩
 refine xEvs1 ?_;refine xFrz ?_;refine xMethB rfl rfl (by decide +kernel) ?_;refine xFrz ?_;refine xStr ?_
 refine ⟨_,_,rfl,?_⟩
 refine ⟨"str","str.join",rfl,by decide +kernel,?_⟩
 refine xEvs1 ?_;refine fN l295_parts rfl (tr_list (at_mid rfl)) ?_;refine xEvs0 ?_
 rw [set_mid rfl]
 have hj2:mfn GP0 "str.join" [.str "; ",.lst [.str tx]] (ob ++ [.frz [.str tx]]) = some (.str tx,ob ++ [.frz [.str tx]]):=by
  have:mfn GP0 "str.join" [.str "; ",.lst [.str tx]] (ob ++ [.frz [.str tx]]) = (if JoinOk "; " [tx] = true then some (.str (Txt.join "; " [tx])) else none).map fun z => (z,ob ++ [.frz [.str tx]]):=rfl
  rw [this,if_pos]
  ·rfl
  ·have e:JoinOk "; " [tx] = !Builtin.Str.tooLong (0 + tx.length + 2):=rfl
   have:=(txt_calm h2).2
   have e2:tx.length = tx.cps.size:=rfl
   rw [e]
   unfold txtOk at h2
   simp only [Bool.and_eq_true,decide_eq_true_eq] at h2
   have h3:=h2.1.1.1.1.2
   unfold Builtin.Str.tooLong
   simp; lia
 refine ⟨_,hj2,by simp,_,_,rfl,?_⟩
 refine xEvs0 ?_
 refine ⟨⟨rfl,two_sz⟩,_,_,rfl,_,_,_,rfl,at_app hj,at_app hj,rfl,by lia,by simp,seqL (by simp) ?_⟩
 rw [set_app ej]
 exact xss0 ⟨.inr ⟨rfl,rfl⟩,rfl⟩
end
section
section
variable {G:Gl} {n:Nat} {sc:Sc} {vs:VS} {ob:OB} {K:AV → OB → Prop} {KS:AF → VS → OB → Prop} {KL:List AV → OB → Prop} {KB:Bool → OB → Prop}
theorem sRetC {elt:Expr} {gens:List Comprehension} {scope:Scope} {cp p:Pos} (h:runE ((ev G n).e sc (.ListComp elt gens scope cp)) vs ob fun a ob1 => KS (.ret a) vs ob1):runS ((ev G (n + 1)).s sc (.Return (some (.ListComp elt gens scope cp)) p)) vs ob KS:=by
 obtain ⟨a,ob1,e1,k⟩:=h
 exact ⟨_,_,_,by show (((ev G n).e sc (.ListComp elt gens scope cp) vs ob).map fun p => (AF.ret p.1,vs,p.2)) = _; rw [e1]; rfl,k⟩
theorem pick_all {α:Type} (xs:List α):pick xs none none = xs:=by
 have e:sliceBounds none none none xs.length = (((0:Nat):Int),(xs.length:Int),1):=rfl
 unfold pick
 rw [e]
 show (sliceRange ((0:Nat):Int) (xs.length:Int) 1).filterMap (xs[·]?) = xs
 rw [sliceRange_one,Nat.sub_zero]
 have e2:(List.range xs.length).map (0 + ·) = List.range xs.length:=by simp
 rw [e2]
 exact List.filterMap_getElem?_range_length xs
theorem sRetSl {value:Expr} {sp p ps:Pos} (h:runE ((ev G n).e sc value) vs ob fun a ob1 => ∃ xs,rdL ob1 a = some xs ∧ xs.length ≤ sizeLine ∧ KS (.ret (.loc ob1.length)) vs (ob1 ++ [.list xs])):runS ((ev G (n + 1)).s sc (.Return (some (.Subscript value (.Slice none none none ps) sp)) p)) vs ob KS:=by
 obtain ⟨a,ob1,e1,xs,e2,e3,k⟩:=h
 refine ⟨_,_,_,?_,k⟩
 show ((eSlice true (ev G n) sc value none none vs ob).map fun p => (AF.ret p.1,vs,p.2)) = _
 unfold eSlice
 simp only [e1,Option.bind_some,ePt,e2,e3,if_true,Option.map_some]
 rw [pick_all]
end
theorem lowerOk {x:Str} {ob:OB} (h:Builtin.Str.tooLong (Txt.lower x).length = false):mfn GP0 "str.lower" [.str x] ob = some (.str (Txt.lower x),ob):=by
 have:mfn GP0 "str.lower" [.str x] ob = (if Builtin.Str.tooLong (Txt.lower x).length = false then some (.str (Txt.lower x)) else none).map fun z => (z,ob):=rfl
 rw [this,if_pos h]; rfl
theorem upperOk {x:Str} {ob:OB} (h:Builtin.Str.tooLong (Txt.upper x).length = false):mfn GP0 "str.upper" [.str x] ob = some (.str (Txt.upper x),ob):=by
 have:mfn GP0 "str.upper" [.str x] ob = (if Builtin.Str.tooLong (Txt.upper x).length = false then some (.str (Txt.upper x)) else none).map fun z => (z,ob):=rfl
 rw [this,if_pos h]; rfl
theorem txt_low {x:Str} (h:txtOk x = true):Builtin.Str.tooLong (Txt.lower x).length = false ∧ PyData.strOk (Txt.lower x) = true ∧ Builtin.Str.tooLong (Txt.upper x).length = false:=by
 unfold txtOk at h
 simp only [Bool.and_eq_true,decide_eq_true_eq,Bool.not_eq_true'] at h
 exact ⟨h.1.1.2,h.2,h.1.2⟩
noncomputable def pairAV (p:Str × Str):AV:=.tup [.str p.1,.str p.2]
noncomputable def pairsOk (ps:List (Str × Str)):Prop:=∀ p ∈ ps,txtOk p.1 = true ∧ txtOk p.2 = true
noncomputable def found (q:Str) (ps:List (Str × Str)):List AV:=(ps.filter fun p => Txt.lower p.1 == q).map fun p => .str p.2
theorem comp237 {f:Nat} {sc:Sc} {cond:Expr} {elt:Expr} {KL:List AV → OB → Prop} {A:Option AV} {ob:OB} {q:Str}
  (hb:∀ (p:Str × Str) (V:VS) (K:Bool → OB → Prop),txtOk p.1 = true → V = [A,some (pairAV p),some (.str q)] → K (Txt.lower p.1 == q) ob → runB ((ev GP0 f).i sc cond) V ob K)
  (he:∀ (p:Str × Str) (V:VS) (K:AV → OB → Prop),V = [A,some (pairAV p),some (.str q)] → K (.str p.2) ob → runE (frz ((ev GP0 f).e sc elt)) V ob K) :
  ∀ (ps:List (Str × Str)) (acc:List AV) (x:Option AV),pairsOk ps → acc.length + ps.length ≤ 2 ^ 20 → KL (acc ++ found q ps) ob → runL (compF (.one 1) ((ev GP0 f).i sc cond) (frz ((ev GP0 f).e sc elt)) (ps.map pairAV) acc) [A,x,some (.str q)] ob KL:=by
 intro ps
 have hs:sizeLine = 2 ^ 24:=rfl
 induction ps with
 | nil =>
  intro acc x _ hl k
  refine xC0 (by simp at hl; lia) ?_
  simpa [found] using k
 | cons p ps ih =>
  intro acc x hp hl k
  rw [List.length_cons] at hl
  have hp0:=hp p (List.mem_cons_self ..)
  have hp':pairsOk ps:=fun y hy => hp y (List.mem_cons_of_mem _ hy)
  refine xC1 (by lia) rfl (hb p _ _ hp0.1 rfl ?_)
  cases h:(Txt.lower p.1 == q) with
  | true =>
   refine Br.t (he p _ _ rfl ⟨rfl,ih _ _ hp' (by simp; lia) ?_⟩)
   have:found q (p :: ps) = .str p.2 :: found q ps:=by unfold found; rw [List.filter_cons,if_pos h]; rfl
   rw [this] at k
   rw [List.append_assoc]; exact k
  | false =>
   refine Br.f (ih _ _ hp' (by lia) ?_)
   have:found q (p :: ps) = found q ps:=by unfold found; rw [List.filter_cons,if_neg (by rw [h]; simp)]
   rw [this] at k
   exact k
theorem w237 {F k j:Nat} {q:Str} {ps:List (Str × Str)} {ob:OB} (hk:ob[k]? = some (.inst 298 ["_headers"] [.loc j])) (hj:ob[j]? = some (.list (ps.map pairAV)) ∨ ob[j]? = some (.frz (ps.map pairAV))) (hL:ps.length ≤ 1000) (hp:pairsOk ps) (hq:Builtin.Str.tooLong (Txt.lower q).length = false) (hq2:calm (Txt.lower q) = true ∧ (Txt.lower q).cps.size ≤ sizeLine) (hq3:PyData.strOk (Txt.lower q) = true) (hF:40 ≤ F) :
  callS (ev GP0 F) fi237 [.loc k,.str q] [] ob = some (.lst (found (Txt.lower q) ps),ob.set j (.frz (ps.map pairAV))):=by
 obtain ⟨f,rfl⟩:=Nat.exists_eq_add_of_le' hF
 have hs:sizeLine = 2 ^ 24:=rfl
 have htr:tr ob (.loc j) = some (.lst (ps.map pairAV),ob.set j (.frz (ps.map pairAV))):=by
  rcases hj with hj | hj
  ·exact tr_list hj
  ·have:ob.set j (.frz (ps.map pairAV)) = ob:=by
    obtain ⟨h1,h2⟩:=List.getElem?_eq_some_iff.mp hj
    rw [← h2]; exact List.set_getElem_self h1
   rw [this]; exact bindI hj rfl
 refine callS_of ⟨by rfl,by rfl,by rfl⟩ (V:=[some (.loc k),some (.str q)]) (by kernel_rfl) ?_
 refine xss1 ?_;refine sAssign1 s237_name rfl ?_;refine xMethU rfl (by rfl) ?_;refine xN l237_self rfl ?_
 refine ⟨298,["_headers"],[.loc j],199,fi199,instLoc hk,by decide +kernel,by rfl,by rfl,by rfl,?_⟩
 refine xEvs1 ?_;refine xFrzO ?_;refine xMethB rfl rfl (by decide +kernel) ?_;refine fN l237_name rfl rfl ?_
 refine ⟨"str","str.lower",rfl,by decide +kernel,?_⟩
 refine xEvs0 ?_
 refine ⟨_,lowerOk hq,rfl,_,_,rfl,?_⟩
 refine xEvs0 ?_;refine xEvk1 ?_;refine xFrzO ?_;refine xBool ?_
 refine ⟨_,_,rfl,?_⟩
 refine xEvk0 ?_
 refine ⟨_,_,_,w199 hq2 (by lia),gc_same,seqN ?_⟩
 refine xss1 ?_;refine sRetC ?_;refine xComp (tg:=.one 1) (V:=[none,none,some (.str (Txt.lower q))]) (by kernel_rfl) (by kernel_rfl) rfl (by kernel_rfl) ?_;refine eIt_o (by kernel_rfl) ?_;refine xFrz ?_;refine xAttrI rfl ?_;refine xN l237_self rfl ?_
 refine ⟨298,["_headers"],[.loc j],.loc j,rfl,instLoc hk,by rfl,by rfl,rfl,_,_,htr,_,.inl rfl,by rw [List.length_map]; lia,?_⟩
 refine comp237 ?_ ?_ ps [] none hp (by simp; lia) (seqRL (by rw [List.length_set]) ⟨.inl ⟨rfl,rfl⟩,rfl⟩)
 ·intro p V K hp1 hV hK
  subst hV
  obtain ⟨l1,l2,_⟩:=txt_low hp1
  refine iCmp1 rfl rfl ?_;refine xFrz ?_;refine xMethB rfl rfl (by decide +kernel) ?_;refine xFrz ?_;refine xSubC ?_;refine xN (i:=1) (by kernel_rfl) rfl ?_
  refine ⟨.str p.1,rfl,_,_,rfl,"str","str.lower",rfl,by decide +kernel,?_⟩
  refine xEvs0 ?_
  refine ⟨_,lowerOk l1,rfl,_,_,rfl,?_⟩
  refine fN (i:=2) (by kernel_rfl) rfl rfl ?_
  exact ⟨_,cEqS l2 hq3,hK⟩
 ·intro p V K hV hK
  subst hV
  refine xFrz ?_;refine xSubC ?_;refine xN (i:=1) (by kernel_rfl) rfl ?_
  exact ⟨.str p.2,rfl,_,_,rfl,hK⟩
theorem w262 {F k j:Nat} {L:List AV} {ob:OB} (hk:ob[k]? = some (.inst 298 ["_headers"] [.loc j])) (hj:rdL ob (.loc j) = some L) (hL:L.length ≤ 1000) (hF:10 ≤ F) :
  callS (ev GP0 F) fi262 [.loc k] [] ob = some (.loc ob.length,ob ++ [.list L]):=by
 obtain ⟨f,rfl⟩:=Nat.exists_eq_add_of_le' hF
 have hs:sizeLine = 2 ^ 24:=rfl
 refine callS_of ⟨by rfl,by rfl,by rfl⟩ (V:=[some (.loc k)]) (by kernel_rfl) ?_
 refine xss1 ?_;refine sRetSl ?_;refine xAttrI rfl ?_;refine xN l262_self rfl ?_
 refine ⟨298,["_headers"],[.loc j],.loc j,rfl,instLoc hk,by rfl,by rfl,rfl,L,hj,by lia,?_⟩
 show _
 refine seqRg (ob'':=ob ++ [.list L]) ?_ ⟨.inl ⟨rfl,rfl⟩,rfl⟩
 have:(ob ++ [AO.list L]).length - ob.length = 1:=by simp
 rw [this,gcN_succ]
 simp [refAF,refAV]
end
section
section
variable {G:Gl} {n:Nat} {sc:Sc} {vs:VS} {ob:OB} {K:AV → OB → Prop} {KS:AF → VS → OB → Prop} {KL:List AV → OB → Prop} {KB:Bool → OB → Prop}
noncomputable abbrev kAsL (i:Nat) (vs:VS) (KS:KSt):List AV → OB → Prop:=fun as ob1 => (trees as = true ∧ as.length ≤ sizeLine) ∧ KS .next (setV vs i (.loc ob1.length)) (ob1 ++ [.list as])
theorem sAssignL {x:Str} {px p lp:Pos} {e:Expr} {es:List Expr} {i:Nat} (h1:stIx sc x = some i) (hn:noStar (e :: es) = true) (h:runL (evs (fun e => frz ((ev G n).e sc e)) (e :: es)) vs ob (kAsL i vs KS)):runS ((ev G (n + 1)).s sc (.Assign [.Name x px] (.List (e :: es) lp) p)) vs ob KS:=by
 obtain ⟨_,_,e1,e2,k⟩:=h
 exact ⟨_,_,_,bindI h1 (bindI (show eLstM (ev G n) sc (e :: es) vs ob = _ from ifI hn (bindI e1 (if_pos e2))) rfl),k⟩
inductive kAg2 (op:Operator) (vs:VS) (KS:KSt) (j:Nat) (m:Int) (x:AV) (y:AV) (ob3:OB):Prop
 | mk (z:_) (ys:_) (ys':_) (h1:iopF op x y = some z) (h2:ob3[j]? = some (.list ys)) (h3:setIx ys m (.int z) = some ys') (k:KS .next vs (ob3.set j (.list ys'))):kAg2 op vs KS j m x y ob3
inductive kAg1 (G:Gl) (n:Nat) (sc:Sc) (e:Expr) (op:Operator) (vs:VS) (KS:KSt) (a:AV) (b:AV) (ob2:OB):Prop
 | mk (j:_) (m:_) (xs:_) (x:_) (h1:a = .loc j) (h2:b = .int m) (h3:rdL ob2 (.loc j) = some xs) (h4:getIx xs m = some x) (h5:x.tree = true) (k:runE (frz ((ev G n).e sc e)) vs ob2 (kAg2 op vs KS j m x)):kAg1 G n sc e op vs KS a b ob2
theorem sAugSub {o i e:Expr} {op:Operator} {ps p:Pos} (hi:isSlice i = false) (h:runE ((ev G n).e sc o) vs ob (kX G n sc vs i (kAg1 G n sc e op vs KS))):runS ((ev G (n + 1)).s sc (.AugAssign (.Subscript o i ps) op e p)) vs ob KS:=by
 obtain ⟨a,ob1,e1,b,ob2,e2,j,m,xs,x,rfl,rfl,e3,e4,e5,y,ob3,e6,z,ys,ys',e7,e8,e9,k⟩:=h
 exact ⟨_,_,_,ifJ (nT hi) (bindI e1 (bindI e2 (bindI rfl (bindI rfl (bindI e3 (bindI e4 (ifI e5 (bindI e6 (bindI e7 (bindI (bindI e8 rfl) (mapI e9 rfl))))))))))),k⟩
inductive kTupL (i j:Nat) (vs:VS) (KS:KSt) (a:AV) (ob1:OB):Prop
 | mk (u:_) (v:_) (h1:a = .lst [u,v]) (k:KS .next (setV (setV vs i u) j v) ob1):kTupL i j vs KS a ob1
theorem sTupL {x y:Str} {px py tp p:Pos} {kk:Nat} {e:Expr} {i j:Nat} (h1:stIx sc x = some i) (h2:stIx sc y = some j) (hne:(i ≠ j ∧ notConsts e = true)) (hn:notTup e = true) (h:runE ((ev G n).e sc e) vs ob (kTupL i j vs KS)) :
  runS ((ev G (n + 1)).s sc (.Assign [.Tuple [.Name x px,.Name y py] kk tp] e p)) vs ob KS:=by
 obtain ⟨a,ob1,e1,u,v,rfl,k⟩:=h
 exact ⟨_,_,_,bindI h1 (bindI h2 (ifI hne (bindI e1 (ifI hn rfl)))),k⟩
end
theorem l309_script:ldIx (fsc fi309) "script" = some 0:=by kernel_rfl
theorem s309_script:stIx (fsc fi309) "script" = some 0:=by kernel_rfl
theorem l309_cells:ldIx (fsc fi309) "cells" = some 1:=by kernel_rfl
theorem s309_cells:stIx (fsc fi309) "cells" = some 1:=by kernel_rfl
theorem l309_k:ldIx (fsc fi309) "k" = some 2:=by kernel_rfl
theorem s309_k:stIx (fsc fi309) "k" = some 2:=by kernel_rfl
theorem g309_range:gName GP0 (fsc fi309) "range" = some (.cst (.type "range")):=by kernel_rfl
theorem g309_len:gName GP0 (fsc fi309) "len" = some (.cst (.builtin "len")):=by kernel_rfl
noncomputable def rngL (a r:Nat):List AV:=(List.range' a r).map fun (i:Nat) => .int (i:Int)
theorem rngAV_L (n:Nat):rngAV 0 n = rngL 0 n:=by
 unfold rngAV rngL
 rw [Int.sub_zero,Int.toNat_natCast,List.range_eq_range']
 apply List.map_congr_left
 intro i _
 show AV.int (0 + (i:Int)) = _
 rw [Int.zero_add]
theorem rngL_succ (a r:Nat):rngL a (r + 1) = .int a :: rngL (a + 1) r:=by unfold rngL; rw [List.range'_succ]; rfl
theorem range_ok {n:Nat} (h:n ≤ 1000):rangeOk 0 n = true:=by
 unfold rangeOk
 have:sizeLine = 2 ^ 24:=rfl
 simp only [Bool.and_eq_true,decide_eq_true_eq]
 refine ⟨⟨⟨⟨by decide,by decide⟩,by lia⟩,by lia⟩,by lia⟩
noncomputable def body309:List Stmt:=forBody ((fi309.body[1]?).getD (.Pass default))
theorem loop309 {f M:Nat} {KS:AF → VS → OB → Prop}:∀ (rest pre cs:List Int) (x:Option AV),cs.length = 3 → (pre ++ rest).length ≤ 1000 → (∀ c ∈ cs,c.natAbs ≤ 42 + pre.length * M) → (∀ c ∈ pre ++ rest,c.natAbs ≤ M) →
  (∀ (cs':List Int) (x':Option AV),cs'.length = 3 → (∀ c ∈ cs',c.natAbs ≤ 42 + (pre ++ rest).length * M) → KS .next [some (.lst (iavs (pre ++ rest))),some (.loc 0),x',none,none] [.list (iavs cs')]) →
  runS (forF (.one 2) (ss ((ev GP0 (f + 20)).s (fsc fi309)) body309) (ss ((ev GP0 (f + 20)).s (fsc fi309)) []) (rngL pre.length rest.length)) [some (.lst (iavs (pre ++ rest))),some (.loc 0),x,none,none] [.list (iavs cs)] KS:=by
 intro rest
 induction rest with
 | nil =>
  intro pre cs x h3 hl hc hm k
  have:=k cs x h3 (by simpa using hc)
  exact xFor0 (xss0 this)
 | cons r rest ih =>
  intro pre cs x h3 hl hc hm k
  have e0:pre ++ r :: rest = (pre ++ [r]) ++ rest:=by simp
  rw [List.length_cons,rngL_succ]
  have hlen:pre.length < (pre ++ r :: rest).length:=by simp
  have hlt:pre.length % 3 < cs.length:=by rw [h3]; exact Nat.mod_lt _ (by decide)
  have em:((pre.length:Int) % 3) = ((pre.length % 3:Nat):Int):=rfl
  have hp62:pre.length < 2 ^ 62:=Nat.lt_trans (Nat.lt_of_lt_of_le hlen hl) (by decide)
  have hm62:pre.length % 3 < 2 ^ 62:=Nat.lt_trans (Nat.mod_lt _ (by decide)) (by decide)
  have hg:(pre ++ r :: rest).getD pre.length 0 = r:=by simp [List.getD]
  refine xFor1 rfl ?_;refine xss1 ?_;refine sAugSub rfl ?_;refine xN l309_cells rfl ?_;refine xB ?_;refine fN l309_k rfl rfl ?_;refine fI ?_
  refine ⟨_,bMd (by decide),?_⟩
  rw [em]
  refine ⟨_,_,_,_,rfl,rfl,rd_list rfl,(getIx_nat hm62).trans (iavs_get hlt),rfl,?_⟩
  refine xFrz ?_;refine xSubN ?_;refine xN l309_script rfl ?_;refine xN l309_k rfl ?_
  refine ⟨_,_,rfl,subsLst.trans ((getIx_nat hp62).trans (iavs_get hlen)),_,_,rfl,?_⟩
  rw [hg]
  refine ⟨_,_,_,rfl,rfl,setIx_nat hm62 (by rw [iavs_len]; exact hlt),seqL rfl (xss0 ⟨rfl,?_⟩)⟩
  show runS _ _ [.list ((iavs cs).set (pre.length % 3) (.int (cs.getD (pre.length % 3) 0 + r)))] _
  rw [iavs_set]
  have e1:pre.length + 1 = (pre ++ [r]).length:=by simp
  rw [e1,e0]
  rw [e0] at hm hl k
  have hM:∀ a:Nat,(a + 1) * M = a * M + M:=fun a => by rw [Nat.add_mul,Nat.one_mul]
  refine ih (pre ++ [r]) _ _ (by simpa using h3) hl (fun c hcm => ?_) hm k
  rw [← e1,hM]
  rcases List.mem_or_eq_of_mem_set hcm with q | q
  ·exact Nat.le_trans (hc c q) (Nat.add_le_add_left (Nat.le_add_right _ _) 42)
  ·have h5:=hm r (by simp)
   have h6:(cs.getD (pre.length % 3) 0).natAbs ≤ 42 + pre.length * M:=by
    rw [List.getD_eq_getElem?_getD,List.getElem?_eq_getElem hlt]
    exact hc _ (List.getElem_mem hlt)
   subst q
   exact Nat.le_trans (Int.natAbs_add_le _ _) (Nat.add_assoc 42 _ M ▸ Nat.add_le_add h6 h5)
theorem w309 {F M:Nat} {zs:List Int} {ob:OB} (hl:zs.length ≤ 63) (hm:∀ c ∈ zs,c.natAbs ≤ M) (hF:40 ≤ F):∃ c0 c1 c2:Int,(∀ c ∈ [c0,c1,c2],c.natAbs ≤ 42 + zs.length * M) ∧ callI (ev GP0 F) fi309 [.lst (iavs zs)] ob = some (.lst [.int c0,.int c1,.int c2],ob):=by
 obtain ⟨f,rfl⟩:=Nat.exists_eq_add_of_le' hF
 have hs:sizeLine = 2 ^ 24:=rfl
 suffices h:runS (ss ((ev GP0 (f + 40)).s (fsc fi309)) fi309.body) [some (.lst (iavs zs)),none,none,none,none] [] (fun fl _ ob1 => ∃ cs:List Int,cs.length = 3 ∧ (∀ c ∈ cs,c.natAbs ≤ 42 + zs.length * M) ∧ fl = .ret (.loc 0) ∧ ob1 = [.list (iavs cs)]) by
  obtain ⟨fl,vs1,ob1,e1,cs,h3,hc,rfl,rfl⟩:=h
  match cs,h3 with
  | [a,b,c],_ => exact ⟨a,b,c,hc,callI_of ⟨by rfl,by rfl,by rfl,by rfl⟩ ⟨_,vs1,_,e1,.loc 0,_,rfl,rfl⟩⟩
 refine xss1 ?_;refine sAssignL s309_cells rfl ?_;refine xEvs1 ?_;refine fI ?_;refine xEvs1 ?_;refine xFrz ?_;refine xNeg ?_;refine xInt ?_
 refine ⟨_,rfl,?_⟩
 refine ⟨_,_,rfl,?_⟩
 refine xEvs1 ?_;refine fI ?_;refine xEvs0 ?_
 refine ⟨⟨rfl,by decide⟩,seqNg (ob'':=[.list (iavs [41,-10,42])]) (gc_live (i:=1) rfl rfl) ?_⟩
 refine xss1 ?_;refine sForO (tg:=.one 2) (by kernel_rfl) rfl rfl ?_;refine eIt_r1 (itRng1 rfl g309_range) ?_;refine xCallL g309_len rfl rfl ?_;refine xEvs1 ?_;refine xN l309_script rfl ?_;refine xEvs0 ?_
 refine ⟨rfl,_,lenLst (by rw [iavs_len]; lia),_,rfl,range_ok (by rw [iavs_len]; lia),?_⟩
 rw [rngAV_L,iavs_len]
 refine loop309 (f:=f + 19) (M:=M) zs [] [41,-10,42] none rfl (by simp; lia) (by simp) (by simpa using hm) fun cs x h3 hc => ?_
 refine seqL rfl ?_;refine xss1 ?_;refine sRet1 (.inl rfl) ?_;refine xN l309_cells rfl ?_
 exact seqRL rfl ⟨cs,h3,by simpa using hc,rfl,rfl⟩
end
noncomputable def Wl:List Str:=["OPTIMIZED","NEWLOCALS","VARARGS","VARKEYWORDS","NESTED","GENERATOR","NOFREE","COROUTINE","ITERABLE_COROUTINE","ASYNC_GENERATOR","0x400","0x800","0x1000","0x2000","0x4000","0x8000","0x10000","0x20000","0x40000","0x80000","0x100000","0x200000","0x400000","0x800000","0x1000000","0x2000000","0x4000000","0x8000000","0x10000000","0x20000000","0x40000000","0x80000000"]
noncomputable def Wp (p:Nat):Str:=Wl.getD p ""
noncomputable def SETS:List (List Nat):=[[1,2,3,4],[0,2,3,5],[0,1,4,5],[0,1,3,6],[0,1,2,7]]
noncomputable def setL (s:Nat):List Nat:=SETS.getD s []
noncomputable def NM (low s:Nat):Str:=Txt.join ", " ((setL s).map fun f => Wp (low + f))
noncomputable def wordAV (low:Nat):List AV:=(List.range 8).map fun f => .str (Wp (low + f))
theorem word_ok (ob:OB) (n:Nat):∀ p:Nat,p < 32 → callI (ev GP0 (n + 40)) fi316 [.int p] ob = some (.str (Wp p),ob) :=
 bdA8 (bdA8 (bdA8 (bd8 (by kernel_rfl) (by kernel_rfl) (by kernel_rfl) (by kernel_rfl) (by kernel_rfl) (by kernel_rfl) (by kernel_rfl) (by kernel_rfl)) (by kernel_rfl) (by kernel_rfl) (by kernel_rfl) (by kernel_rfl) (by kernel_rfl) (by kernel_rfl) (by kernel_rfl) (by kernel_rfl)) (by kernel_rfl) (by kernel_rfl) (by kernel_rfl) (by kernel_rfl) (by kernel_rfl) (by kernel_rfl) (by kernel_rfl) (by kernel_rfl)) (by kernel_rfl) (by kernel_rfl) (by kernel_rfl) (by kernel_rfl) (by kernel_rfl) (by kernel_rfl) (by kernel_rfl) (by kernel_rfl)
theorem flag_ok (ob:OB) (n:Nat):∀ low:Nat,low < 25 → callI (ev GP0 (n + 40)) fi46 [.int (2 ^ low)] ob = some (.str (Wp low),ob) :=
 bdS (bdA8 (bdA8 (bd8 (by kernel_rfl) (by kernel_rfl) (by kernel_rfl) (by kernel_rfl) (by kernel_rfl) (by kernel_rfl) (by kernel_rfl) (by kernel_rfl)) (by kernel_rfl) (by kernel_rfl) (by kernel_rfl) (by kernel_rfl) (by kernel_rfl) (by kernel_rfl) (by kernel_rfl) (by kernel_rfl)) (by kernel_rfl) (by kernel_rfl) (by kernel_rfl) (by kernel_rfl) (by kernel_rfl) (by kernel_rfl) (by kernel_rfl) (by kernel_rfl)) (by kernel_rfl)
noncomputable def LB (j:Nat):Str:=(["0x0","OPTIMIZED, 0x80000000, 0x300000000","-0x500000000"]:List Str).getD j ""
noncomputable def HY (h:Nat):Str:=Txt.mul "-" h
noncomputable def TX (j h:Nat):Str:=(LB j ++ "+") ++ HY h
noncomputable def lowA (x:Str):Str:=⟨x.cps.map lo1⟩
noncomputable def upA (x:Str):Str:=⟨x.cps.map up1⟩
noncomputable def cOk (x:Str):Bool:=calm x && decide (x.cps.size ≤ 1000)
theorem calm_lt {x:Str} (h:calm x = true):∀ c ∈ x.cps.toList,32 ≤ c ∧ c < 127:=fun c hc => by
 unfold calm at h
 rw [Array.all_eq_true_iff_forall_mem] at h
 have:=h c (Array.mem_toList_iff.mp hc)
 simpa using this
theorem low_eq {x:Str} (h:calm x = true):Txt.lower x = lowA x:=lower_ascii fun c hc => by have:=calm_lt h c hc; lia
theorem up_eq {x:Str} (h:calm x = true):Txt.upper x = upA x:=upper_ascii fun c hc => by have:=calm_lt h c hc; lia
theorem calm_lowA {x:Str} (h:calm x = true):calm (lowA x) = true:=by
 unfold calm lowA
 rw [Array.all_eq_true_iff_forall_mem]
 intro c hc
 obtain ⟨d,hd,rfl⟩:=Array.mem_map.mp hc
 have:=calm_lt h d (Array.mem_toList_iff.mpr hd)
 unfold lo1
 split <;> simp <;> lia
theorem calm_upA {x:Str} (h:calm x = true):calm (upA x) = true:=by
 unfold calm upA
 rw [Array.all_eq_true_iff_forall_mem]
 intro c hc
 obtain ⟨d,hd,rfl⟩:=Array.mem_map.mp hc
 have:=calm_lt h d (Array.mem_toList_iff.mpr hd)
 unfold up1
 split <;> simp <;> omega
theorem cOk_of {x:Str} (h:cOk x = true):calm x = true ∧ x.cps.size ≤ 1000:=by
 unfold cOk at h
 rw [Bool.and_eq_true] at h
 exact ⟨h.1,of_decide_eq_true h.2⟩
theorem cOk_low {x:Str} (h:cOk x = true):cOk (lowA x) = true:=by
 obtain ⟨h1,h2⟩:=cOk_of h
 unfold cOk
 rw [calm_lowA h1,Bool.true_and]
 exact decide_eq_true (by unfold lowA; simpa using h2)
theorem cOk_up {x:Str} (h:cOk x = true):cOk (upA x) = true:=by
 obtain ⟨h1,h2⟩:=cOk_of h
 unfold cOk
 rw [calm_upA h1,Bool.true_and]
 exact decide_eq_true (by unfold upA; simpa using h2)
theorem str_of_calm {x:Str} (h:calm x = true):PyData.strOk x = true:=by
 unfold PyData.strOk
 rw [Array.all_eq_true_iff_forall_mem]
 intro c hc
 have:=calm_lt h c (Array.mem_toList_iff.mpr hc)
 simp; omega
theorem short_of {x:Str} (h:x.cps.size ≤ 1000):Builtin.Str.tooLong x.length = false:=by
 unfold Builtin.Str.tooLong
 have:sizeLine = 2 ^ 24:=rfl
 have e:x.length = x.cps.size:=rfl
 simp; lia
theorem txtOk_of {x:Str} (h:cOk x = true):txtOk x = true:=by
 obtain ⟨h1,h2⟩:=cOk_of h
 have l:=cOk_of (cOk_low h)
 have u:=cOk_of (cOk_up h)
 unfold txtOk
 rw [low_eq h1,up_eq h1,h1,str_of_calm h1,str_of_calm l.1,short_of l.2,short_of u.2]
 simp [h2]
noncomputable def lowOk (q:Str):Bool:=cOk q
theorem lowOk_of {q:Str} (h:cOk q = true):Builtin.Str.tooLong (Txt.lower q).length = false ∧ (calm (Txt.lower q) = true ∧ (Txt.lower q).cps.size ≤ sizeLine) ∧ PyData.strOk (Txt.lower q) = true:=by
 obtain ⟨h1,h2⟩:=cOk_of h
 have l:=cOk_of (cOk_low h)
 have:sizeLine = 2 ^ 24:=rfl
 rw [low_eq h1]
 exact ⟨short_of l.2,⟨l.1,by lia⟩,str_of_calm l.1⟩
noncomputable def cl (x:Str):List Nat:=x.cps.toList
theorem cl_inj {x y:Str} (h:cl x = cl y):x = y:=by
 obtain ⟨⟨a⟩⟩:=x
 obtain ⟨⟨b⟩⟩:=y
 unfold cl at h
 simp at h
 rw [h]
theorem beq_cl (x y:Str):(x == y) = (cl x == cl y):=by
 cases h:(cl x == cl y) with
 | true => rw [cl_inj (beq_iff_eq.mp h)]; exact beq_self_eq_true _
 | false =>
  cases h2:(x == y) with
  | false => rfl
  | true => rw [beq_iff_eq.mp h2,beq_self_eq_true] at h; cases h
theorem cl_lowA (x:Str):cl (lowA x) = (cl x).map lo1:=by unfold cl lowA; simp
theorem cl_upA (x:Str):cl (upA x) = (cl x).map up1:=by unfold cl upA; simp
noncomputable def cOkL (l:List Nat):Bool:=(l.all fun ch => decide (32 ≤ ch) && decide (ch < 127)) && decide (l.length ≤ 1000)
theorem cOk_cl (x:Str):cOk x = cOkL (cl x):=by
 unfold cOk cOkL calm cl
 rw [Array.all_toList]; rfl
theorem cl_app (x y:Str):cl (x ++ y) = cl x ++ cl y:=by
 show (x.cps ++ y.cps).toList = _
 rw [Array.toList_append]; rfl
noncomputable def joinL (sep:List Nat):List (List Nat) → List Nat
 | [] => []
 | [x] => x
 | x :: r => x ++ sep ++ joinL sep r
theorem cl_sjoin (sep:Str):∀ xs:List Str,cl (PySem.Str.join sep xs) = joinL (cl sep) (xs.map cl)
 | [] => rfl
 | [x] => rfl
 | x :: y :: r => by
  have ih:=cl_sjoin sep (y :: r)
  rw [join_cons_cons,cl_app,cl_app,ih]; rfl
theorem cl_join (sep:Str) (xs:List Str):cl (Txt.join sep xs) = joinL (cl sep) (xs.map cl):=by
 rw [show Txt.join sep xs = PySem.Str.join sep xs from beq_iff_eq.mp (join_plain_closes sep xs),cl_sjoin]
noncomputable def WL:List (List Nat):=[[79,80,84,73,77,73,90,69,68],[78,69,87,76,79,67,65,76,83],[86,65,82,65,82,71,83],[86,65,82,75,69,89,87,79,82,68,83],[78,69,83,84,69,68],[71,69,78,69,82,65,84,79,82],[78,79,70,82,69,69],[67,79,82,79,85,84,73,78,69],[73,84,69,82,65,66,76,69,95,67,79,82,79,85,84,73,78,69],[65,83,89,78,67,95,71,69,78,69,82,65,84,79,82],[48,120,52,48,48],[48,120,56,48,48],[48,120,49,48,48,48],[48,120,50,48,48,48],[48,120,52,48,48,48],[48,120,56,48,48,48],[48,120,49,48,48,48,48],[48,120,50,48,48,48,48],[48,120,52,48,48,48,48],[48,120,56,48,48,48,48],[48,120,49,48,48,48,48,48],[48,120,50,48,48,48,48,48],[48,120,52,48,48,48,48,48],[48,120,56,48,48,48,48,48],[48,120,49,48,48,48,48,48,48],[48,120,50,48,48,48,48,48,48],[48,120,52,48,48,48,48,48,48],[48,120,56,48,48,48,48,48,48],[48,120,49,48,48,48,48,48,48,48],[48,120,50,48,48,48,48,48,48,48],[48,120,52,48,48,48,48,48,48,48],[48,120,56,48,48,48,48,48,48,48]]
noncomputable def WpL (p:Nat):List Nat:=WL.getD p []
theorem WpL_ok:∀ p < 32,cl (Wp p) = WpL p:=by decide +kernel
noncomputable def NML (low s:Nat):List Nat:=joinL [44,32] ((setL s).map fun f => WpL (low + f))
theorem setL_lt:∀ s < 5,∀ f ∈ setL s,f < 8:=by decide +kernel
theorem NML_ok {low s:Nat} (hl:low < 25) (hs:s < 5):cl (NM low s) = NML low s:=by
 unfold NM NML
 rw [cl_join,List.map_map]
 have e:cl (", " : Str) = [44,32]:=by decide +kernel
 rw [e]
 congr 1
 apply List.map_congr_left
 intro f hf
 exact WpL_ok _ (by have:=setL_lt s hs f hf; lia)
theorem c_tx:∀ j < 3,∀ h < 4,cOkL (cl (TX j h)) = true:=by decide +kernel
theorem c_al:cOkL (cl "alone") = true:=by decide +kernel
theorem l_nm:∀ low < 25,∀ s < 5,cOkL (NML low s) = true:=by decide +kernel
theorem l_wp:∀ low < 32,cOkL (WpL low) = true:=by decide +kernel
theorem l_nmnm:∀ low < 25,∀ k < 5,∀ s < 5,(NML low s == NML low k) = decide (s = k):=by decide +kernel
theorem l_wpnm:∀ low < 25,∀ k < 5,(WpL low == NML low k) = false:=by decide +kernel
theorem l_a1:∀ low < 25,∀ k < 5,∀ s < 5,((NML low s).map lo1 == ((NML low k).map lo1).map lo1) = decide (s = k):=by decide +kernel
theorem l_a2:∀ low < 25,∀ k < 5,∀ s < 5,((NML low s).map lo1 == ((NML low k).map up1).map lo1) = decide (s = k):=by decide +kernel
theorem l_b1:∀ low < 25,∀ k < 5,((WpL low).map lo1 == ((NML low k).map lo1).map lo1) = false:=by decide +kernel
theorem l_b2:∀ low < 25,∀ k < 5,((WpL low).map lo1 == ((NML low k).map up1).map lo1) = false:=by decide +kernel
theorem l_u1:∀ low < 25,((WpL low).map lo1 == ((WpL low).map up1).map lo1) = true:=by decide +kernel
theorem l_u2:∀ low < 25,∀ s < 5,((NML low s).map lo1 == ((WpL low).map up1).map lo1) = false:=by decide +kernel
section
set_option backward.match.sparseCases false
section
variable {G:Gl} {n:Nat} {sc:Sc} {vs:VS} {ob:OB} {K:AV → OB → Prop} {KS:AF → VS → OB → Prop} {KL:List AV → OB → Prop} {KB:Bool → OB → Prop}
mutual
noncomputable def okT:AV → Bool
 | .none | .bool _ | .int _ => true
 | .str x => PyData.strOk x
 | .tup xs | .lst xs => okTs xs
 | _ => false
noncomputable def okTs:List AV → Bool
 | [] => true
 | x :: xs => okT x && okTs xs
end
noncomputable def AV.flat:AV → Bool
 | .none | .bool _ | .int _ | .str _ => true
 | _ => false
noncomputable def dpt:Nat → AV → Bool
 | 0,a => a.flat
 | n + 1,a => (AV.casesOn (motive_1:=fun _ => Bool) a a.flat (fun _ => a.flat) (fun _ => a.flat) (fun _ => a.flat) (fun xs => xs.all (dpt n)) (fun xs => xs.all (dpt n)) (fun _ _ _ => false) (fun _ => false) false (fun _ => false) (fun _ => false))
theorem consI2 {a b c d:Bool} {P Q:Prop} (h:(a && b) = true) (h1:a = true → P ∧ c = true) (h2:b = true → Q ∧ d = true):(P ∧ Q) ∧ (c && d) = true:=⟨⟨(h1 (and2 h).1).1,(h2 (and2 h).2).1⟩,by rw [(h1 (and2 h).1).2,(h2 (and2 h).2).2]; rfl⟩
theorem okT_P {a:AV}:okT a = true → a.isP = true ∧ a.toP.canLay0 = true :=
 AV.rec (motive_1:=fun a => okT a = true → a.isP = true ∧ a.toP.canLay0 = true) (motive_2:=fun xs => okTs xs = true → isPs xs = true ∧ PyData.canLayAll0 (toPs xs) = true)
  (fun _ => ⟨rfl,rfl⟩) (fun _ _ => ⟨rfl,rfl⟩) (fun _ _ => ⟨rfl,rfl⟩) (fun _ h => ⟨rfl,h⟩) (fun _ r => r) (fun _ r => r) (fun _ _ _ _ h => nomatch h) (fun _ h => nomatch h) (fun h => nomatch h) (fun _ h => nomatch h) (fun _ h => nomatch h) (fun _ => ⟨rfl,rfl⟩)
  (fun _ _ r s h => have q:=consI2 h r s; ⟨by exact Bool.and_eq_true_iff.mpr q.1,q.2⟩) a
theorem dpts {n:Nat} (ih:∀ a:AV,dpt n a = true → a.toP.depth ≤ n):∀ xs:List AV,xs.all (dpt n) = true → PyData.depthAll (toPs xs) ≤ n:=fun xs => by
 induction xs with
 | nil => exact fun _ => Nat.zero_le _
 | cons x xs r => exact fun h => Nat.max_le.mpr ⟨ih x (and2 h).1,r (and2 h).2⟩
theorem flat_P {n:Nat}:∀ a:AV,a.flat = true → a.toP.depth ≤ n:=fun a => by
 cases a <;> first | exact fun _ => Nat.zero_le _ | exact fun h => nomatch h
theorem dpt_P:∀ (n:Nat) (a:AV),dpt n a = true → a.toP.depth ≤ n:=fun n => by
 induction n with
 | zero => exact flat_P
 | succ n ih =>
  intro a
  cases a with
  | tup xs => exact fun h => Nat.succ_le_succ (dpts ih xs h)
  | lst xs => exact fun h => Nat.succ_le_succ (dpts ih xs h)
  | _ => first | exact fun _ => Nat.zero_le _ | exact fun h => nomatch h
theorem shaped_of {a:AV} (h:okT a = true) (hd:dpt 10 a = true):a.isP = true ∧ shaped a.toP = true:=by
 refine ⟨(okT_P h).1,?_⟩
 unfold shaped
 rw [(okT_P h).2,Bool.true_and]
 exact decide_eq_true (by have:=dpt_P 10 a hd; lia)
theorem cNeSame {a:AV} (h:okT a = true) (hd:dpt 10 a = true):copF .NotEq a a = some false:=by
 obtain ⟨h1,h2⟩:=shaped_of h hd
 exact bindI (if_pos (by rw [h1,h2]; rfl)) (by rw [eqv_refl _ (okT_P h).2]; rfl)
theorem eIt0_n {x:Str} {px:Pos} {a:AV} (e:evName G sc x vs ob = some (a,ob)) (h:a.k? = none):eIt0 (ev G (n + 1)) sc (.Name x px) vs ob = none:=(bindI e (by dsimp only; rw [h]; rfl):(evName G sc x vs ob).bind (fun p => p.1.k?.bind fun j => (p.2[j]?.bind AO.e?).bind fun _ => some p.2) = none)
theorem sForV {target:Expr} {x:Str} {px p:Pos} {body orelse:List Stmt} {tg:TgK} {i:Nat} {a:AV} (h1:eTg sc target = some tg) (h2:ldIx sc x = some i) (h3:getV vs i = some a) (h4:a.k? = none) (h:runL (eIt G (ev G (n + 1)) sc (.Name x px)) vs ob (kForO G (n + 1) sc tg body orelse vs KS)) :
  runS ((ev G (n + 2)).s sc (.For target (.Name x px) body orelse p)) vs ob KS:=by
 obtain ⟨_,_,e1,fl,vs2,ob2,e2,k⟩:=h
 exact ⟨fl,vs2,ob2,sFor_n h1 rfl (eIt0_n ((evName_ld h2 (ld_dbg h2)).trans (mapI h3 rfl)) h4) e1 e2,k⟩
inductive kSb (K:KE) (a:AV) (b:AV) (ob2:OB):Prop
 | mk (i:_) (z:_) (h1:b = .int i) (h2:subsF ob2 a i = some z) (k:K z ob2):kSb K a b ob2
theorem xSubE {value slice:Expr} {p:Pos} (hi:sliceOf slice = none) (hs:isSlice slice = false) (h:runE ((ev G n).e sc value) vs ob (kX G n sc vs slice (kSb K))):runE ((ev G (n + 1)).e sc (.Subscript value slice p)) vs ob K:=by
 obtain ⟨a,ob1,e1,b,ob2,e2,i,z,rfl,e3,k⟩:=h
 exact ⟨z,ob2,show eSubs (ev G n) sc value slice vs ob = _ by unfold eSubs; rw [hi]; exact ifJ (nT hs) (bindI e1 (bindI e2 (bindI rfl (mapI e3 rfl)))),k⟩
theorem eIt_r1c {iter a:Expr} {m:Nat} (h:itK G sc iter = .range1 a) (hm:m ≤ 1000) (h1:runE ((ev G n).e sc a) vs ob fun b ob1 => b = .int (m:Int) ∧ KL (rngL 0 m) ob1):runL (eIt G (ev G n) sc iter) vs ob KL :=
 eIt_r1 h (by obtain ⟨b,ob1,e1,rfl,k⟩:=h1; exact ⟨_,ob1,e1,_,rfl,range_ok hm,by rw [rngAV_L]; exact k⟩)
end
theorem bPow {h:Nat} (hh:h < 4):bopF .Pow (.int (-1)) (.int h) = some (.int ((-1) ^ h)):=by
 match h,hh with
 | 0,_ => kernel_rfl
 | 1,_ => kernel_rfl
 | 2,_ => kernel_rfl
 | 3,_ => kernel_rfl
noncomputable def LABELS:AV:=.lst [.str (LB 0),.str (LB 1),.str (LB 2)]
theorem split_tx (ob:OB):∀ j h:Nat,j < 3 → h < 4 → mfn GP0 "str.split" [.str (TX j h),.str "+"] ob = some (.lst [.str (LB j),.str (HY h)],ob) :=
 fun j h hj hh => bd3 (P:=fun j => ∀ h,h < 4 → mfn GP0 "str.split" [.str (TX j h),.str "+"] ob = some (.lst [.str (LB j),.str (HY h)],ob)) (bd4 (P:=fun h => mfn GP0 "str.split" [.str (TX 0 h),.str "+"] ob = some (.lst [.str (LB 0),.str (HY h)],ob)) (by kernel_rfl) (by kernel_rfl) (by kernel_rfl) (by kernel_rfl)) (bd4 (P:=fun h => mfn GP0 "str.split" [.str (TX 1 h),.str "+"] ob = some (.lst [.str (LB 1),.str (HY h)],ob)) (by kernel_rfl) (by kernel_rfl) (by kernel_rfl) (by kernel_rfl)) (bd4 (P:=fun h => mfn GP0 "str.split" [.str (TX 2 h),.str "+"] ob = some (.lst [.str (LB 2),.str (HY h)],ob)) (by kernel_rfl) (by kernel_rfl) (by kernel_rfl) (by kernel_rfl)) j hj h hh
theorem index_ok' (ob:OB):∀ j:Nat,j < 3 → mfn GP0 "list.index" [LABELS,.str (LB j)] ob = some (.int j,ob):=by
 intro j hj
 match j,hj with
 | 0,_ => kernel_rfl
 | 1,_ => kernel_rfl
 | 2,_ => kernel_rfl
theorem hy_len (ob:OB):∀ h:Nat,h < 4 → bfn "len" [.str (HY h)] ob = some (.int h,ob):=by
 intro h hh
 match h,hh with
 | 0,_ => kernel_rfl
 | 1,_ => kernel_rfl
 | 2,_ => kernel_rfl
 | 3,_ => kernel_rfl
theorem bts_sg:∀ h < 4,bts ((-1:Int) ^ h) = 1:=by decide +kernel
end
noncomputable abbrev Item:=Nat × Nat × Nat
noncomputable def itsOk (its:List Item):Prop:=∀ it ∈ its,it.1 < 5 ∧ it.2.1 < 3 ∧ it.2.2 < 4
noncomputable def hdr (low:Nat) (it:Item):Str × Str:=(NM low it.1,TX it.2.1 it.2.2)
noncomputable def hdrs (low:Nat) (its:List Item):List (Str × Str):=(Wp low,"alone") :: its.map (hdr low)
noncomputable def sel (k:Nat) (its:List Item):List Item:=its.filter fun it => it.1 == k
noncomputable def txs (its:List Item):List AV:=its.map fun it => .str (TX it.2.1 it.2.2)
noncomputable def wAt (ws:List Int) (j:Nat):Int:=ws.getD j 0
noncomputable def tot (ws:List Int):Int → List Item → Int
 | t,[] => t
 | t,it :: r => tot ws (t + (-1) ^ it.2.2 * wAt ws it.2.1) r
theorem txt_nm {low s:Nat} (hl:low < 25) (hs:s < 5):cOk (NM low s) = true:=by rw [cOk_cl,NML_ok hl hs]; exact l_nm low hl s hs
theorem txt_wp {low:Nat} (hl:low < 32):cOk (Wp low) = true:=by rw [cOk_cl,WpL_ok low hl]; exact l_wp low hl
theorem txt_tx {j h:Nat} (hj:j < 3) (hh:h < 4):cOk (TX j h) = true:=by rw [cOk_cl]; exact c_tx j hj h hh
theorem ps_ok {low:Nat} {its:List Item} (hl:low < 25) (hi:itsOk its):pairsOk (hdrs low its):=fun p hp => by
 rcases List.mem_cons.mp hp with rfl | q
 ·exact ⟨txtOk_of (txt_wp (by omega)),txtOk_of (by rw [cOk_cl]; exact c_al)⟩
 ·obtain ⟨it,h1,rfl⟩:=List.mem_map.mp q
  obtain ⟨a,b,c⟩:=hi it h1
  exact ⟨txtOk_of (txt_nm hl a),txtOk_of (txt_tx b c)⟩
noncomputable def Qn (low k:Nat):Str:=if k % 2 = 1 then Txt.upper (NM low k) else Txt.lower (NM low k)
theorem qn_ok {low k:Nat} (hl:low < 25) (hk:k < 5):cOk (Qn low k) = true:=by
 have h:=txt_nm hl hk
 have hc:=(cOk_of h).1
 unfold Qn
 split
 ·rw [up_eq hc]; exact cOk_up h
 ·rw [low_eq hc]; exact cOk_low h
theorem qn_nm {low k s:Nat} (hl:low < 25) (hk:k < 5) (hs:s < 5):(Txt.lower (NM low s) == Txt.lower (Qn low k)) = (s == k):=by
 have e:(s == k) = decide (s = k):=by by_cases h:s = k <;> simp [h]
 have hc:=(cOk_of (txt_nm hl hk)).1
 rw [low_eq (cOk_of (txt_nm hl hs)).1,low_eq (cOk_of (qn_ok hl hk)).1,beq_cl,cl_lowA,cl_lowA,NML_ok hl hs,e]
 unfold Qn
 split
 ·rw [up_eq hc,cl_upA,NML_ok hl hk]; exact l_a2 low hl k hk s hs
 ·rw [low_eq hc,cl_lowA,NML_ok hl hk]; exact l_a1 low hl k hk s hs
theorem qn_wp {low k:Nat} (hl:low < 25) (hk:k < 5):(Txt.lower (Wp low) == Txt.lower (Qn low k)) = false:=by
 have hc:=(cOk_of (txt_nm hl hk)).1
 rw [low_eq (cOk_of (txt_wp (by lia))).1,low_eq (cOk_of (qn_ok hl hk)).1,beq_cl,cl_lowA,cl_lowA,WpL_ok low (by lia)]
 unfold Qn
 split
 ·rw [up_eq hc,cl_upA,NML_ok hl hk]; exact l_b2 low hl k hk
 ·rw [low_eq hc,cl_lowA,NML_ok hl hk]; exact l_b1 low hl k hk
theorem nm_nm {low k s:Nat} (hl:low < 25) (hk:k < 5) (hs:s < 5):(NM low s == NM low k) = (s == k):=by
 have e:(s == k) = decide (s = k):=by by_cases h:s = k <;> simp [h]
 rw [beq_cl,NML_ok hl hs,NML_ok hl hk,e]; exact l_nmnm low hl k hk s hs
theorem wp_nm {low k:Nat} (hl:low < 25) (hk:k < 5):(Wp low == NM low k) = false:=by
 rw [beq_cl,WpL_ok low (by lia),NML_ok hl hk]; exact l_wpnm low hl k hk
theorem found_q {low k:Nat} {its:List Item} (hl:low < 25) (hk:k < 5) (hi:itsOk its):found (Txt.lower (Qn low k)) (hdrs low its) = txs (sel k its):=by
 unfold found hdrs
 rw [List.filter_cons,if_neg (by rw [qn_wp hl hk]; simp)]
 induction its with
 | nil => rfl
 | cons it its ih =>
  have h1:=hi it (List.mem_cons_self ..)
  have h2:=ih fun x hx => hi x (List.mem_cons_of_mem _ hx)
  rw [List.map_cons,List.filter_cons,show (Txt.lower (hdr low it).1 == Txt.lower (Qn low k)) = (it.1 == k) from qn_nm hl hk h1.1]
  unfold sel txs
  rw [List.filter_cons]
  cases q:(it.1 == k) with
  | true => simp only [if_true,List.map_cons]; rw [h2]; rfl
  | false => simp only [Bool.false_eq_true,if_false]; exact h2
theorem up_q {low:Nat} {its:List Item} (hl:low < 25) (hi:itsOk its):found (Txt.lower (Txt.upper (Wp low))) (hdrs low its) = [.str "alone"]:=by
 have hc:=(cOk_of (txt_wp (low:=low) (by lia)))
 have hu:=cOk_of (cOk_up (txt_wp (low:=low) (by lia)))
 have e1:(Txt.lower (Wp low) == Txt.lower (Txt.upper (Wp low))) = true:=by
  rw [up_eq hc.1,low_eq hc.1,low_eq hu.1,beq_cl,cl_lowA,cl_lowA,cl_upA,WpL_ok low (by lia)]; exact l_u1 low hl
 have e2:∀ s,s < 5 → (Txt.lower (NM low s) == Txt.lower (Txt.upper (Wp low))) = false:=fun s hs => by
  rw [up_eq hc.1,low_eq (cOk_of (txt_nm hl hs)).1,low_eq hu.1,beq_cl,cl_lowA,cl_lowA,cl_upA,WpL_ok low (by lia),NML_ok hl hs]; exact l_u2 low hl s hs
 unfold found hdrs
 rw [List.filter_cons,if_pos e1]
 have e3:(its.map (hdr low)).filter (fun p => Txt.lower p.1 == Txt.lower (Txt.upper (Wp low))) = []:=by
  rw [List.filter_eq_nil_iff]
  intro p hp
  obtain ⟨it,h1,rfl⟩:=List.mem_map.mp hp
  rw [show (Txt.lower (hdr low it).1 == Txt.lower (Txt.upper (Wp low))) = false from e2 _ (hi it h1).1]
  simp
 rw [e3]; rfl
theorem l342_mixture:ldIx (fsc fi342) "mixture" = some 0:=by kernel_rfl
theorem s342_mixture:stIx (fsc fi342) "mixture" = some 0:=by kernel_rfl
theorem l342_laid:ldIx (fsc fi342) "laid" = some 1:=by kernel_rfl
theorem s342_laid:stIx (fsc fi342) "laid" = some 1:=by kernel_rfl
theorem l342_names:ldIx (fsc fi342) "names" = some 2:=by kernel_rfl
theorem s342_names:stIx (fsc fi342) "names" = some 2:=by kernel_rfl
theorem l342_labels:ldIx (fsc fi342) "labels" = some 3:=by kernel_rfl
theorem s342_labels:stIx (fsc fi342) "labels" = some 3:=by kernel_rfl
theorem l342_weights:ldIx (fsc fi342) "weights" = some 4:=by kernel_rfl
theorem s342_weights:stIx (fsc fi342) "weights" = some 4:=by kernel_rfl
theorem l342_sums:ldIx (fsc fi342) "sums" = some 5:=by kernel_rfl
theorem s342_sums:stIx (fsc fi342) "sums" = some 5:=by kernel_rfl
theorem l342_k:ldIx (fsc fi342) "k" = some 6:=by kernel_rfl
theorem s342_k:stIx (fsc fi342) "k" = some 6:=by kernel_rfl
theorem l342_texts:ldIx (fsc fi342) "texts" = some 7:=by kernel_rfl
theorem s342_texts:stIx (fsc fi342) "texts" = some 7:=by kernel_rfl
theorem l342_text:ldIx (fsc fi342) "text" = some 8:=by kernel_rfl
theorem s342_text:stIx (fsc fi342) "text" = some 8:=by kernel_rfl
theorem l342_total:ldIx (fsc fi342) "total" = some 9:=by kernel_rfl
theorem s342_total:stIx (fsc fi342) "total" = some 9:=by kernel_rfl
theorem l342_label:ldIx (fsc fi342) "label" = some 10:=by kernel_rfl
theorem s342_label:stIx (fsc fi342) "label" = some 10:=by kernel_rfl
theorem l342_hyphens:ldIx (fsc fi342) "hyphens" = some 11:=by kernel_rfl
theorem s342_hyphens:stIx (fsc fi342) "hyphens" = some 11:=by kernel_rfl
theorem g342_range:gName GP0 (fsc fi342) "range" = some (.cst (.type "range")):=by kernel_rfl
theorem g342_len:gName GP0 (fsc fi342) "len" = some (.cst (.builtin "len")):=by kernel_rfl
theorem comp342 {f:Nat} {sc:Sc} {cond:Expr} {elt:Expr} {KL:List AV → OB → Prop} {A B C:Option AV} {ob:OB} {q:Str} {k:Nat} {low:Nat}
  (hb:∀ (p:Str × Str) (V:VS) (K:Bool → OB → Prop),PyData.strOk p.1 = true → V = [A,some (.str p.1),some (.str p.2),B,C] → K (p.1 == q) ob → runB ((ev GP0 f).i sc cond) V ob K)
  (he:∀ (p:Str × Str) (V:VS) (K:AV → OB → Prop),V = [A,some (.str p.1),some (.str p.2),B,C] → K (.str p.2) ob → runE (frz ((ev GP0 f).e sc elt)) V ob K) :
  ∀ (ps:List (Str × Str)) (acc:List AV) (x y:Option AV),pairsOk ps → acc.length + ps.length ≤ 2 ^ 20 → KL (acc ++ (ps.filter fun p => p.1 == q).map fun p => .str p.2) ob → runL (compF (.two 1 2) ((ev GP0 f).i sc cond) (frz ((ev GP0 f).e sc elt)) (ps.map pairAV) acc) [A,x,y,B,C] ob KL:=by
 intro ps
 have hs:sizeLine = 2 ^ 24:=rfl
 induction ps with
 | nil =>
  intro acc x y _ hl k
  refine xC0 (by simp at hl; omega) ?_
  simpa using k
 | cons p ps ih =>
  intro acc x y hp hl k
  rw [List.length_cons] at hl
  have hp0:=hp p (List.mem_cons_self ..)
  have hp':pairsOk ps:=fun y hy => hp y (List.mem_cons_of_mem _ hy)
  have hstr:PyData.strOk p.1 = true:=by
   have:=hp0.1
   unfold txtOk at this
   simp only [Bool.and_eq_true,decide_eq_true_eq] at this
   exact this.1.1.1.2
  refine xC1 (by omega) rfl (hb p _ _ hstr rfl ?_)
  rw [List.filter_cons] at k
  cases h:(p.1 == q) with
  | true =>
   rw [h] at k
   simp only [if_true,List.map_cons] at k
   refine Br.t (he p _ _ rfl ⟨rfl,ih _ _ _ hp' (by simp; omega) ?_⟩)
   rw [List.append_assoc]; exact k
  | false =>
   rw [h] at k
   simp only [Bool.false_eq_true,if_false] at k
   exact Br.f (ih _ _ _ hp' (by omega) k)
theorem filter_nm {low k:Nat} {its:List Item} (hl:low < 25) (hk:k < 5) (hi:itsOk its):((hdrs low its).filter fun p => p.1 == NM low k).map (fun p => AV.str p.2) = txs (sel k its):=by
 unfold hdrs
 rw [List.filter_cons,if_neg (by rw [wp_nm hl hk]; simp)]
 induction its with
 | nil => rfl
 | cons it its ih =>
  have h1:=hi it (List.mem_cons_self ..)
  have h2:=ih fun x hx => hi x (List.mem_cons_of_mem _ hx)
  rw [List.map_cons,List.filter_cons,show ((hdr low it).1 == NM low k) = (it.1 == k) from nm_nm hl hk h1.1]
  unfold sel txs
  rw [List.filter_cons]
  cases q:(it.1 == k) with
  | true => simp only [if_true,List.map_cons]; rw [h2]; rfl
  | false => simp only [Bool.false_eq_true,if_false]; exact h2
section
set_option backward.match.sparseCases false
noncomputable def body342:List Stmt:=forBody ((fi342.body[1]?).getD (.Pass default))
noncomputable def bodyT:List Stmt:=forBody ((body342[3]?).getD (.Pass default))
noncomputable def callArg:Stmt → Expr
 | .Assign _ (.Call _ (a :: _) _ _) _ => a
 | _ => .Constant .none 0 default
noncomputable def argQ:Expr:=callArg ((body342[0]?).getD (.Pass default))
noncomputable def NAMES (low:Nat):List AV:=(List.range 5).map fun s => .str (NM low s)
theorem NAMES_get {low k:Nat} (hk:k < 5):getIx (NAMES low) k = some (.str (NM low k)):=by
 rw [getIx_nat (by lia)]
 unfold NAMES
 rw [List.getElem?_map,List.getElem?_range hk]; rfl
noncomputable def V342 (mk:Nat) (L names ws:AV) (sl:Nat) (k texts text total label hyphens:Option AV):VS:=[some (.loc mk),some L,some names,some LABELS,some ws,some (.loc sl),k,texts,text,total,label,hyphens,none,none]
theorem bts_w {ws:List Int} {j:Nat} (hw:∀ w ∈ ws,bts w ≤ 2 ^ 22):bts (wAt ws j) ≤ 2 ^ 22:=by
 unfold wAt
 rw [List.getD_eq_getElem?_getD]
 cases h:ws[j]? with
 | none => decide
 | some w => exact hw w (List.mem_of_getElem? h)
theorem loopT {f mk sl:Nat} {L names:AV} {ws:List Int} {k texts:Option AV} {ob:OB} {KS:AF → VS → OB → Prop} (h3:ws.length = 3) (hw:∀ w ∈ ws,bts w ≤ 2 ^ 22):∀ (its:List Item) (t:Int) (x lab hyp:Option AV),itsOk its →
  (∀ x lab hyp:Option AV,KS .next (V342 mk L names (.lst (iavs ws)) sl k texts x (some (.int (tot ws t its))) lab hyp) ob) →
  runS (forF (.one 8) (ss ((ev GP0 (f + 20)).s (fsc fi342)) bodyT) (ss ((ev GP0 (f + 20)).s (fsc fi342)) []) (txs its)) (V342 mk L names (.lst (iavs ws)) sl k texts x (some (.int t)) lab hyp) ob KS:=by
 intro its
 induction its with
 | nil => intro t x lab hyp _ k; exact xFor0 (xss0 (k x lab hyp))
 | cons it its ih =>
  intro t x lab hyp hi k
  obtain ⟨a,hj,hh⟩:=hi it (List.mem_cons_self ..)
  obtain ⟨s,j,h⟩:=it
  dsimp only at a hj hh
  refine xFor1 rfl ?_;refine xss1 ?_;refine sTupL s342_label s342_hyphens ⟨by decide,rfl⟩ rfl ?_;refine xMethB rfl rfl (by decide +kernel) ?_;refine fN l342_text rfl rfl ?_
  refine ⟨"str","str.split",rfl,by decide +kernel,?_⟩
  refine xEvs1 ?_;refine xFrz ?_;refine xStr ?_
  refine ⟨_,_,rfl,?_⟩
  refine xEvs0 ?_
  refine ⟨_,split_tx _ j h hj hh,rfl,_,_,rfl,seqN ?_⟩
  refine xss1 ?_;refine sAug1 l342_total s342_total rfl rfl ?_;refine fB ?_;refine fB ?_;refine xFrz ?_;refine xNeg ?_;refine xInt ?_
  refine ⟨_,rfl,?_⟩
  refine ⟨_,_,rfl,?_⟩
  refine xFrz ?_;refine xCallL g342_len rfl rfl ?_;refine xEvs1 ?_;refine xN l342_hyphens rfl ?_;refine xEvs0 ?_
  refine ⟨rfl,_,hy_len _ h hh,_,_,rfl,?_⟩
  refine ⟨_,bPow hh,?_⟩
  refine xFrz ?_;refine xSubE rfl rfl ?_;refine xN l342_weights rfl ?_;refine xMethB rfl rfl (by decide +kernel) ?_;refine fN l342_labels rfl rfl ?_
  refine ⟨"list","list.index",rfl,by decide +kernel,?_⟩
  refine xEvs1 ?_;refine fN l342_label rfl rfl ?_;refine xEvs0 ?_
  have hb:=bts_w (j:=j) hw
  refine ⟨_,index_ok' _ j hj,rfl,_,_,rfl,subsLst.trans ((getIx_nat (by lia)).trans (iavs_get (by lia))),_,_,rfl,?_⟩
  have hb2:bts ((-1:Int) ^ h) + bts (ws.getD j 0) ≤ 2 ^ 27:=by
   rw [bts_sg h hh]
   have:bts (ws.getD j 0) ≤ 2 ^ 22:=hb
   lia
  refine ⟨_,bMul hb2,_,rfl,seqN (xss0 ⟨rfl,?_⟩)⟩
  refine ih _ _ _ _ (fun y hy => hi y (List.mem_cons_of_mem _ hy)) fun x lab hyp => ?_
  exact k x lab hyp
theorem nameArg {f low k mk sl:Nat} {L ws:AV} {texts text total lab hyp:Option AV} {ob:OB} {K:AV → OB → Prop} (hl:low < 25) (hk:k < 5) (h:K (.str (Qn low k)) ob) :
  runE (frzO ((ev GP0 (f + 20)).e (fsc fi342) argQ)) (V342 mk L (.lst (NAMES low)) ws sl (some (.int k)) texts text total lab hyp) ob K:=by
 have em:((k:Int) % 2) = ((k % 2:Nat):Int):=by lia
 have hc:=txtOk_of (txt_nm hl hk)
 obtain ⟨t1,_,t2⟩:=txt_low hc
 unfold Qn at h
 refine xFrzO ?_;refine xIfE ?_;refine iCmp1 rfl rfl ?_;refine fB ?_;refine fN l342_k rfl rfl ?_;refine fI ?_
 refine ⟨_,bMd (by lia),?_⟩
 rw [em]
 refine fI ?_
 refine ⟨_,cEqI,?_⟩
 refine Br.dec (fun hq => ?_) (fun hq => ?_)
 ·rw [if_pos (by lia)] at h
  refine xMethB rfl rfl (by decide +kernel) ?_;refine xFrz ?_;refine xSubN ?_;refine xN l342_names rfl ?_;refine xN l342_k rfl ?_
  refine ⟨_,_,rfl,subsLst.trans (NAMES_get hk),_,_,rfl,"str","str.upper",rfl,by decide +kernel,?_⟩
  refine xEvs0 ?_
  exact ⟨_,upperOk t2,rfl,_,_,rfl,h⟩
 ·rw [if_neg (by lia)] at h
  refine xMethB rfl rfl (by decide +kernel) ?_;refine xFrz ?_;refine xSubN ?_;refine xN l342_names rfl ?_;refine xN l342_k rfl ?_
  refine ⟨_,_,rfl,subsLst.trans (NAMES_get hk),_,_,rfl,"str","str.lower",rfl,by decide +kernel,?_⟩
  refine xEvs0 ?_
  exact ⟨_,lowerOk t1,rfl,_,_,rfl,h⟩
theorem txs_like {its:List Item} (hi:itsOk its):okT (.lst (txs its)) = true ∧ dpt 10 (.lst (txs its)) = true:=by
 constructor
 ·show okTs (txs its) = true
  unfold txs
  induction its with
  | nil => rfl
  | cons it its ih =>
   have h1:=hi it (List.mem_cons_self ..)
   rw [List.map_cons]
   show (PyData.strOk (TX it.2.1 it.2.2) && _) = true
   rw [str_of_calm (cOk_of (txt_tx h1.2.1 h1.2.2)).1,Bool.true_and]
   exact ih fun x hx => hi x (List.mem_cons_of_mem _ hx)
 ·show (txs its).all (dpt 9) = true
  unfold txs
  rw [List.all_eq_true]
  intro x hx
  obtain ⟨it,_,rfl⟩:=List.mem_map.mp hx
  rfl
theorem sel_ok {k:Nat} {its:List Item} (hi:itsOk its):itsOk (sel k its):=fun it h => hi it (List.mem_filter.mp h).1
theorem turn342 {f low k mk j:Nat} {its:List Item} {ws:List Int} {sums:List Int} {Ob:OB} {texts text total lab hyp:Option AV} {KS:AF → VS → OB → Prop} (hl:low < 25) (hk:k < 5) (hi:itsOk its) (hn:its.length ≤ 900) (h3:ws.length = 3) (hw:∀ w ∈ ws,bts w ≤ 2 ^ 22) (hs:sums.length ≤ 100)
  (h1:Ob[mk]? = some (.inst 298 ["_headers"] [.loc j])) (h2:Ob[j]? = some (.list ((hdrs low its).map pairAV)) ∨ Ob[j]? = some (.frz ((hdrs low its).map pairAV)))
  (hK:∀ texts text total lab hyp:Option AV,KS .next (V342 mk (.lst ((hdrs low its).map pairAV)) (.lst (NAMES low)) (.lst (iavs ws)) Ob.length (some (.int k)) texts text total lab hyp) (Ob.set j (.frz ((hdrs low its).map pairAV)) ++ [.list (iavs (sums ++ [tot ws 0 (sel k its)]))])) :
  runS (ss ((ev GP0 (f + 60)).s (fsc fi342)) body342) (V342 mk (.lst ((hdrs low its).map pairAV)) (.lst (NAMES low)) (.lst (iavs ws)) Ob.length (some (.int k)) texts text total lab hyp) (Ob ++ [.list (iavs sums)]) KS:=by
 have hs24:sizeLine = 2 ^ 24:=rfl
 have hj:j < Ob.length:=by rcases h2 with h | h <;> exact lt_of_at h
 have hq:=lowOk_of (qn_ok hl hk)
 have hlen:(hdrs low its).length ≤ 1000:=by unfold hdrs; simp; lia
 have hfk:=found_q (k:=k) hl hk hi
 have c:=w237 (F:=f + 58) (k:=mk) (j:=j) (q:=Qn low k) (ps:=hdrs low its) (ob:=Ob ++ [.list (iavs sums)]) (at_app h1) (by rcases h2 with h | h; exact .inl (at_app h); exact .inr (at_app h)) hlen (ps_ok hl hi) hq.1 hq.2.1 hq.2.2 (by lia)
 rw [hfk,set_app hj] at c
 have hlike:=txs_like (sel_ok (k:=k) hi)
 refine xss1 ?_;refine sAssign1 s342_texts rfl ?_;refine xMethU rfl (by rfl) ?_;refine xN l342_mixture rfl ?_
 refine ⟨298,["_headers"],[.loc j],237,fi237,instLoc (at_app h1),by decide +kernel,by rfl,by rfl,by rfl,?_⟩
 refine xEvs1 (nameArg (f:=f + 38) hl hk ?_)
 refine xEvs0 ?_;refine xEvk0 ?_
 refine ⟨_,_,_,c,gc_len (by simp),seqL (by simp) ?_⟩
 refine xss1 ?_;refine sIf1 ?_;refine iCmp1 rfl rfl ?_;refine fN l342_texts rfl rfl ?_;refine xFrz ?_;refine xComp (tg:=.two 1 2) (V:=[none,none,none,some (.int k),some (.lst (NAMES low))]) (by kernel_rfl) (by kernel_rfl) rfl (by kernel_rfl) ?_;refine eIt_o (by kernel_rfl) ?_;refine xFrz ?_;refine xN l342_laid rfl ?_
 refine ⟨_,_,rfl,?_⟩
 refine ⟨_,.inl rfl,by rw [List.length_map]; lia,?_⟩
 refine comp342 (k:=0) (low:=0) (q:=NM low k) ?_ ?_ (hdrs low its) [] none none (ps_ok hl hi) (by simp; lia) ?_
 ·intro p V K hp hV hK
  subst hV
  refine iCmp1 rfl rfl ?_;refine fN (i:=1) (by kernel_rfl) rfl rfl ?_;refine xFrz ?_;refine xSubN ?_;refine xN (i:=4) (by kernel_rfl) rfl ?_;refine xN (i:=3) (by kernel_rfl) rfl ?_
  refine ⟨_,_,rfl,subsLst.trans (NAMES_get hk),_,_,rfl,?_⟩
  exact ⟨_,cEqS hp (str_of_calm (cOk_of (txt_nm hl hk)).1),hK⟩
 ·intro p V K hV hK
  subst hV
  refine fN (i:=2) (by kernel_rfl) rfl rfl ?_
  exact hK
 rw [filter_nm hl hk hi,List.nil_append]
 refine ⟨_,_,rfl,_,cNeSame hlike.1 hlike.2,Br.f ?_⟩
 refine xss0 ?_;refine seqN ?_;refine xss1 ?_;refine sAssign1 s342_total rfl ?_;refine xInt ?_;refine seqN ?_;refine xss1 ?_;refine sForV (tg:=.one 8) (by kernel_rfl) l342_texts rfl rfl ?_;refine eIt_o (by kernel_rfl) ?_
 have hsl:(txs (sel k its)).length ≤ 1000:=by
  unfold txs sel
  rw [List.length_map]
  exact Nat.le_trans (List.length_filter_le _ _) (by lia)
 refine xFrz ?_;refine xN l342_texts rfl ?_
 refine ⟨_,_,rfl,?_⟩
 refine ⟨_,.inl rfl,by lia,?_⟩
 refine loopT (f:=f + 39) (mk:=mk) h3 hw (sel k its) 0 text lab hyp (sel_ok hi) fun x lab hyp => ?_
 refine seqN ?_;refine xss1 ?_;refine sExpr rfl ?_;refine xAppend rfl rfl rfl rfl ?_;refine xN l342_sums rfl ?_;refine fN l342_total rfl rfl ?_
 have hsl2:(Ob.set j (AO.frz ((hdrs low its).map pairAV))).length = Ob.length:=by simp
 refine ⟨_,_,_,rfl,at_mid hsl2,at_mid hsl2,rfl,by rw [iavs_len]; lia,by simp,seqL (by simp) (xss0 ?_)⟩
 rw [set_mid hsl2]
 have e:iavs sums ++ [AV.int (tot ws 0 (sel k its))] = iavs (sums ++ [tot ws 0 (sel k its)]):=by rw [iavs_app]; rfl
 rw [e]
 exact hK _ _ _ _ _
end
theorem set_same {ob:OB} {j:Nat} {x:AO} (h:ob[j]? = some x):ob.set j x = ob:=by
 obtain ⟨h1,h2⟩:=List.getElem?_eq_some_iff.mp h
 rw [← h2]; exact List.set_getElem_self h1
noncomputable def SUM (ws:List Int) (its:List Item) (k:Nat):Int:=tot ws 0 (sel k its)
noncomputable def SUMS (ws:List Int) (its:List Item) (a:Nat):List Int:=(List.range a).map (SUM ws its)
theorem SUMS_succ {ws its a}:SUMS ws its (a + 1) = SUMS ws its a ++ [SUM ws its a]:=by unfold SUMS; rw [List.range_succ,List.map_append]; rfl
theorem loop342 {f low mk j:Nat} {its:List Item} {ws:List Int} {Ob:OB} {KS:AF → VS → OB → Prop} (hl:low < 25) (hi:itsOk its) (hn:its.length ≤ 900) (h3:ws.length = 3) (hw:∀ w ∈ ws,bts w ≤ 2 ^ 22)
  (h1:Ob[mk]? = some (.inst 298 ["_headers"] [.loc j])) (h2:Ob[j]? = some (.frz ((hdrs low its).map pairAV)))
  (hK:∀ k texts text total lab hyp:Option AV,KS .next (V342 mk (.lst ((hdrs low its).map pairAV)) (.lst (NAMES low)) (.lst (iavs ws)) Ob.length k texts text total lab hyp) (Ob ++ [.list (iavs (SUMS ws its 5))])) :
  ∀ (r a:Nat) (k texts text total lab hyp:Option AV),a + r = 5 → runS (forF (.one 6) (ss ((ev GP0 (f + 60)).s (fsc fi342)) body342) (ss ((ev GP0 (f + 60)).s (fsc fi342)) []) (rngL a r)) (V342 mk (.lst ((hdrs low its).map pairAV)) (.lst (NAMES low)) (.lst (iavs ws)) Ob.length k texts text total lab hyp) (Ob ++ [.list (iavs (SUMS ws its a))]) KS:=by
 intro r
 induction r with
 | zero =>
  intro a k texts text total lab hyp ha
  have:a = 5:=by lia
  subst this
  exact xFor0 (xss0 (hK _ _ _ _ _ _))
 | succ r ih =>
  intro a k texts text total lab hyp ha
  rw [rngL_succ]
  refine xFor1 rfl ?_
  refine turn342 (f:=f) (k:=a) hl (by lia) hi hn h3 hw (by unfold SUMS; simp; lia) h1 (.inr h2) fun texts text total lab hyp => ?_
  rw [set_same h2]
  refine ⟨rfl,?_⟩
  have:=ih (a + 1) (some (.int a)) texts text total lab hyp (by lia)
  rw [SUMS_succ] at this
  exact this
theorem w342 {F low mk j:Nat} {its:List Item} {ws:List Int} {Ob:OB} (hl:low < 25) (hi:itsOk its) (hn:its.length ≤ 900) (h3:ws.length = 3) (hw:∀ w ∈ ws,bts w ≤ 2 ^ 22) (hF:70 ≤ F) (hne:mk ≠ j)
  (h1:Ob[mk]? = some (.inst 298 ["_headers"] [.loc j])) (h2:Ob[j]? = some (.list ((hdrs low its).map pairAV)) ∨ Ob[j]? = some (.frz ((hdrs low its).map pairAV))) :
  callS (ev GP0 F) fi342 [.loc mk,.lst ((hdrs low its).map pairAV),.lst (NAMES low),LABELS,.lst (iavs ws)] [] Ob = some (.loc Ob.length,Ob.set j (.frz ((hdrs low its).map pairAV)) ++ [.list (iavs (SUMS ws its 5))]):=by
 obtain ⟨f,rfl⟩:=Nat.exists_eq_add_of_le' hF
 have hj:j < Ob.length:=by rcases h2 with h | h <;> exact lt_of_at h
 refine callS_of ⟨by rfl,by rfl,by rfl⟩ (V:=[some (.loc mk),some (.lst ((hdrs low its).map pairAV)),some (.lst (NAMES low)),some LABELS,some (.lst (iavs ws)),none,none,none,none,none,none,none,none,none]) (by kernel_rfl) ?_
 refine xss1 ?_;refine sAssignE s342_sums ?_;refine seqNg (gc_live (i:=5) rfl (by simp)) ?_;refine xss1 ?_;refine sForO (tg:=.one 6) (by kernel_rfl) rfl rfl ?_;refine eIt_r1c (m:=5) (itRng1 rfl g342_range) (by lia) ?_;refine xInt ?_
 refine ⟨rfl,?_⟩
 rw [rngL_succ]
 refine xFor1 rfl ?_
 have h1':(Ob.set j (AO.frz ((hdrs low its).map pairAV)))[mk]? = some (.inst 298 ["_headers"] [.loc j]):=by rw [List.getElem?_set_ne (Ne.symm hne)]; exact h1
 have h2':(Ob.set j (AO.frz ((hdrs low its).map pairAV)))[j]? = some (.frz ((hdrs low its).map pairAV)):=by rw [List.getElem?_set_self hj]
 have el:(Ob.set j (AO.frz ((hdrs low its).map pairAV))).length = Ob.length:=by simp
 refine turn342 (f:=f + 9) (k:=0) (sums:=[]) (Ob:=Ob) hl (by lia) hi hn h3 hw (by simp) h1 h2 fun texts text total lab hyp => ?_
 refine ⟨rfl,?_⟩
 have:=loop342 (f:=f + 9) (KS:=seqK ((ev GP0 (f + 70)).s (fsc fi342)) [(fi342.body[2]?).getD (.Pass default)] (Ob ++ [.list []]) (fun fl _ ob1 => ((fl = .ret (.loc Ob.length) ∧ notClo (.loc Ob.length) = true) ∨ (fl = .next ∧ AV.loc Ob.length = .none)) ∧ ob1 = Ob.set j (.frz ((hdrs low its).map pairAV)) ++ [.list (iavs (SUMS ws its 5))])) hl hi hn h3 hw h1' h2' (fun k texts text total lab hyp => ?_) 4 1 (some (.int ((0:Nat):Int))) texts text total lab hyp (by lia)
 ·rw [el] at this
  exact this
 ·rw [el]
  refine seqL (by simp) ?_;refine xss1 ?_;refine sRet1 (.inl rfl) ?_;refine xN l342_sums rfl ?_
  exact seqRL rfl ⟨.inl ⟨rfl,rfl⟩,rfl⟩
theorem l347_script:ldIx (fsc fi347) "script" = some 0:=by kernel_rfl
theorem s347_script:stIx (fsc fi347) "script" = some 0:=by kernel_rfl
theorem l347_cells:ldIx (fsc fi347) "cells" = some 1:=by kernel_rfl
theorem s347_cells:stIx (fsc fi347) "cells" = some 1:=by kernel_rfl
theorem l347_low:ldIx (fsc fi347) "low" = some 2:=by kernel_rfl
theorem s347_low:stIx (fsc fi347) "low" = some 2:=by kernel_rfl
theorem l347_words:ldIx (fsc fi347) "words" = some 3:=by kernel_rfl
theorem s347_words:stIx (fsc fi347) "words" = some 3:=by kernel_rfl
theorem l347_behind:ldIx (fsc fi347) "behind" = some 4:=by kernel_rfl
theorem s347_behind:stIx (fsc fi347) "behind" = some 4:=by kernel_rfl
theorem l347_k:ldIx (fsc fi347) "k" = some 5:=by kernel_rfl
theorem s347_k:stIx (fsc fi347) "k" = some 5:=by kernel_rfl
theorem l347_weights:ldIx (fsc fi347) "weights" = some 6:=by kernel_rfl
theorem s347_weights:stIx (fsc fi347) "weights" = some 6:=by kernel_rfl
theorem l347_labels:ldIx (fsc fi347) "labels" = some 7:=by kernel_rfl
theorem s347_labels:stIx (fsc fi347) "labels" = some 7:=by kernel_rfl
theorem l347_leads:ldIx (fsc fi347) "leads" = some 8:=by kernel_rfl
theorem s347_leads:stIx (fsc fi347) "leads" = some 8:=by kernel_rfl
theorem l347_laid:ldIx (fsc fi347) "laid" = some 9:=by kernel_rfl
theorem s347_laid:stIx (fsc fi347) "laid" = some 9:=by kernel_rfl
theorem l347_mixture:ldIx (fsc fi347) "mixture" = some 10:=by kernel_rfl
theorem s347_mixture:stIx (fsc fi347) "mixture" = some 10:=by kernel_rfl
theorem l347_row:ldIx (fsc fi347) "row" = some 11:=by kernel_rfl
theorem s347_row:stIx (fsc fi347) "row" = some 11:=by kernel_rfl
theorem l347_typed:ldIx (fsc fi347) "typed" = some 12:=by kernel_rfl
theorem s347_typed:stIx (fsc fi347) "typed" = some 12:=by kernel_rfl
theorem l347_lead:ldIx (fsc fi347) "lead" = some 13:=by kernel_rfl
theorem s347_lead:stIx (fsc fi347) "lead" = some 13:=by kernel_rfl
theorem l347_counts:ldIx (fsc fi347) "counts" = some 14:=by kernel_rfl
theorem s347_counts:stIx (fsc fi347) "counts" = some 14:=by kernel_rfl
theorem l347_bent:ldIx (fsc fi347) "bent" = some 15:=by kernel_rfl
theorem s347_bent:stIx (fsc fi347) "bent" = some 15:=by kernel_rfl
theorem l347_flags:ldIx (fsc fi347) "flags" = some 16:=by kernel_rfl
theorem s347_flags:stIx (fsc fi347) "flags" = some 16:=by kernel_rfl
theorem l347_passed:ldIx (fsc fi347) "passed" = some 17:=by kernel_rfl
theorem s347_passed:stIx (fsc fi347) "passed" = some 17:=by kernel_rfl
theorem l347_text:ldIx (fsc fi347) "text" = some 18:=by kernel_rfl
theorem s347_text:stIx (fsc fi347) "text" = some 18:=by kernel_rfl
theorem l347_sets:ldIx (fsc fi347) "sets" = some 19:=by kernel_rfl
theorem s347_sets:stIx (fsc fi347) "sets" = some 19:=by kernel_rfl
theorem l347_sums:ldIx (fsc fi347) "sums" = some 20:=by kernel_rfl
theorem s347_sums:stIx (fsc fi347) "sums" = some 20:=by kernel_rfl
theorem l347_much:ldIx (fsc fi347) "much" = some 21:=by kernel_rfl
theorem s347_much:stIx (fsc fi347) "much" = some 21:=by kernel_rfl
theorem l347_runs:ldIx (fsc fi347) "runs" = some 22:=by kernel_rfl
theorem s347_runs:stIx (fsc fi347) "runs" = some 22:=by kernel_rfl
theorem l347_share:ldIx (fsc fi347) "share" = some 23:=by kernel_rfl
theorem s347_share:stIx (fsc fi347) "share" = some 23:=by kernel_rfl
theorem l347_total:ldIx (fsc fi347) "total" = some 24:=by kernel_rfl
theorem s347_total:stIx (fsc fi347) "total" = some 24:=by kernel_rfl
theorem l347_alike:ldIx (fsc fi347) "alike" = some 25:=by kernel_rfl
theorem s347_alike:stIx (fsc fi347) "alike" = some 25:=by kernel_rfl
theorem l347_due:ldIx (fsc fi347) "due" = some 26:=by kernel_rfl
theorem s347_due:stIx (fsc fi347) "due" = some 26:=by kernel_rfl
theorem l347_under:ldIx (fsc fi347) "under" = some 27:=by kernel_rfl
theorem s347_under:stIx (fsc fi347) "under" = some 27:=by kernel_rfl
theorem l347_rest:ldIx (fsc fi347) "rest" = some 28:=by kernel_rfl
theorem s347_rest:stIx (fsc fi347) "rest" = some 28:=by kernel_rfl
theorem l347_over:ldIx (fsc fi347) "over" = some 29:=by kernel_rfl
theorem s347_over:stIx (fsc fi347) "over" = some 29:=by kernel_rfl
theorem l347_told:ldIx (fsc fi347) "told" = some 30:=by kernel_rfl
theorem s347_told:stIx (fsc fi347) "told" = some 30:=by kernel_rfl
theorem g347__law_cells:gName GP0 (fsc fi347) "_law_cells" = some (.cst (.ref 309)):=by kernel_rfl
theorem g347_sum:gName GP0 (fsc fi347) "sum" = some (.cst (.builtin "sum")):=by kernel_rfl
theorem g347_range:gName GP0 (fsc fi347) "range" = some (.cst (.type "range")):=by kernel_rfl
theorem g347_Headers:gName GP0 (fsc fi347) "Headers" = some (.cst (.ref 298)):=by kernel_rfl
theorem g347_pretty_flags:gName GP0 (fsc fi347) "pretty_flags" = some (.cst (.ref 46)):=by kernel_rfl
theorem g347__law_runs:gName GP0 (fsc fi347) "_law_runs" = some (.cst (.ref 323)):=by kernel_rfl
theorem g347_Whitespace:gName GP0 (fsc fi347) "Whitespace" = some (.cst (.ref 150)):=by kernel_rfl
theorem g347_tuple:gName GP0 (fsc fi347) "tuple" = some (.cst (.type "tuple")):=by kernel_rfl
theorem g347_max:gName GP0 (fsc fi347) "max" = some (.cst (.builtin "max")):=by kernel_rfl
theorem g347_len:gName GP0 (fsc fi347) "len" = some (.cst (.builtin "len")):=by kernel_rfl
theorem g347__law_table:gName GP0 (fsc fi347) "_law_table" = some (.cst (.ref 330)):=by kernel_rfl
theorem g347__law_sums:gName GP0 (fsc fi347) "_law_sums" = some (.cst (.ref 342)):=by kernel_rfl
theorem g347__law_counted:gName GP0 (fsc fi347) "_law_counted" = some (.cst (.ref 337)):=by kernel_rfl
theorem g347_abs:gName GP0 (fsc fi347) "abs" = some (.cst (.builtin "abs")):=by kernel_rfl
theorem g347_int_divmod:gName GP0 (fsc fi347) "int_divmod" = some (.cst (.ref 88)):=by kernel_rfl
noncomputable def stLaw (k:Nat):Stmt:=(fi347.body[k]?).getD (.Pass default)
noncomputable def VL (script cells low words behind k weights labels leads laid mixture row typed lead counts bent flags passed text sets sums much runs share total alike due under rest over told:Option AV):VS :=
 [script,cells,low,words,behind,k,weights,labels,leads,laid,mixture,row,typed,lead,counts,bent,flags,passed,text,sets,sums,much,runs,share,total,alike,due,under,rest,over,told,none,none,none,none,none,none,none,none,none,none,none,none,none,none,none]
theorem vs347 (ns:AV):setVs (vs₀ fi347.fd) fi347.is [ns] = VL (some ns) .none .none .none .none .none .none .none .none .none .none .none .none .none .none .none .none .none .none .none .none .none .none .none .none .none .none .none .none .none .none:=by kernel_rfl
noncomputable def u:Option AV:=none
theorem words_ok (n:Nat) (v0 v1 v4 v5:Option AV):∀ low:Nat,low < 25 → (ev GP0 (n + 60)).s (fsc fi347) (stLaw 2) (VL v0 v1 (some (.int low)) u v4 v5 u u u u u u u u u u u u u u u u u u u u u u u u u) [] = some (.next,VL v0 v1 (some (.int low)) (some (.lst (wordAV low))) v4 v5 u u u u u u u u u u u u u u u u u u u u u u u u u,[]):=by
 intro low hl
 match low,hl with
 | 0,_ => kernel_rfl
 | 1,_ => kernel_rfl
 | 2,_ => kernel_rfl
 | 3,_ => kernel_rfl
 | 4,_ => kernel_rfl
 | 5,_ => kernel_rfl
 | 6,_ => kernel_rfl
 | 7,_ => kernel_rfl
 | 8,_ => kernel_rfl
 | 9,_ => kernel_rfl
 | 10,_ => kernel_rfl
 | 11,_ => kernel_rfl
 | 12,_ => kernel_rfl
 | 13,_ => kernel_rfl
 | 14,_ => kernel_rfl
 | 15,_ => kernel_rfl
 | 16,_ => kernel_rfl
 | 17,_ => kernel_rfl
 | 18,_ => kernel_rfl
 | 19,_ => kernel_rfl
 | 20,_ => kernel_rfl
 | 21,_ => kernel_rfl
 | 22,_ => kernel_rfl
 | 23,_ => kernel_rfl
 | 24,_ => kernel_rfl
 | low + 25,h => omega
theorem lab_ok (n:Nat) (v0 v1 v2 v3 v4 v5 v6:Option AV):(ev GP0 (n + 60)).s (fsc fi347) (stLaw 5) (VL v0 v1 v2 v3 v4 v5 v6 u u u u u u u u u u u u u u u u u u u u u u u u) [] = some (.next,VL v0 v1 v2 v3 v4 v5 v6 (some LABELS) u u u u u u u u u u u u u u u u u u u u u u u,[]):=by kernel_rfl
theorem labIf_ok (n:Nat) (v0 v1 v2 v3 v4 v5 v6:Option AV):(ev GP0 (n + 60)).s (fsc fi347) (stLaw 6) (VL v0 v1 v2 v3 v4 v5 v6 (some LABELS) u u u u u u u u u u u u u u u u u u u u u u u) [] = some (.next,VL v0 v1 v2 v3 v4 v5 v6 (some LABELS) u u u u u u u u u u u u u u u u u u u u u u u,[]):=by kernel_rfl
theorem wts_ok (n:Nat) (c0 c1 c2:Int) (v0 v2 v3 v4 v5:Option AV):(ev GP0 (n + 60)).s (fsc fi347) (stLaw 4) (VL v0 (some (.lst [.int c0,.int c1,.int c2])) v2 v3 v4 v5 u u u u u u u u u u u u u u u u u u u u u u u u u) [] = some (.next,VL v0 (some (.lst [.int c0,.int c1,.int c2])) v2 v3 v4 v5 (some (.lst [.int (c0.fdiv 8),.int (c1.fdiv 7),.int (c2.fdiv 6)])) u u u u u u u u u u u u u u u u u u u u u u u u,[]):=by kernel_rfl
theorem low_ok (n:Nat) (c0 c1 c2:Int) (v0:Option AV):(ev GP0 (n + 60)).s (fsc fi347) (stLaw 1) (VL v0 (some (.lst [.int c0,.int c1,.int c2])) u u u u u u u u u u u u u u u u u u u u u u u u u u u u u) [] = some (.next,VL v0 (some (.lst [.int c0,.int c1,.int c2])) (some (.int (([c0,c1,c2].sum.fdiv 32).fmod 25))) u u u u u u u u u u u u u u u u u u u u u u u u u u u u,[]):=by kernel_rfl
theorem mix_ok (n:Nat) (v0 v1 v2 v3 v4 v5 v6 v7:Option AV) (L:List AV):(ev GP0 (n + 60)).s (fsc fi347) (stLaw 9) (VL v0 v1 v2 v3 v4 v5 v6 v7 (some (.loc 0)) (some (.loc 1)) u u u u u u u u u u u u u u u u u u u u u) [.list [],.list L] = some (.next,VL v0 v1 v2 v3 v4 v5 v6 v7 (some (.loc 0)) (some (.loc 1)) (some (.loc 3)) u u u u u u u u u u u u u u u u u u u u,[.list [],.list L,.list [],.inst 298 ["_headers"] [.loc 2]]):=by kernel_rfl
noncomputable def BH (b:Nat):Str:=Txt.mul " " b
theorem bh_ok:∀ b:Nat,b < 4 → bopF .Mult (.str " ") (.int b) = some (.str (BH b)):=by
 intro b hb
 match b,hb with
 | 0,_ => kernel_rfl
 | 1,_ => kernel_rfl
 | 2,_ => kernel_rfl
 | 3,_ => kernel_rfl
theorem one_sz:1 ≤ sizeLine:=by decide
theorem sumOk {xs:List Int} {ob:OB}:bfn "sum" [.lst (iavs xs)] ob = some (.int xs.sum,ob):=by
 have h:∀ xs:List Int,intsOf (iavs xs) = some xs:=fun xs => by
  unfold iavs
  induction xs with
  | nil => rfl
  | cons x xs ih => exact mapI ih rfl
 show (((intsOf (iavs xs)).map fun ns => AV.int ns.sum).map fun z => (z,ob)) = _
 rw [h]; rfl
noncomputable def obA (low:Nat):OB:=[.list [],.list [pairAV (Wp low,"alone")],.list [pairAV (Wp low,"alone")],.inst 298 ["_headers"] [.loc 2]]
noncomputable def lowOf (c0 c1 c2:Int):Nat:=([c0,c1,c2].sum / 32 % 25).toNat
noncomputable def bhOf (c0 c1 c2:Int):Nat:=([c0,c1,c2].sum % 4).toNat
theorem lowOf_lt (c0 c1 c2:Int):lowOf c0 c1 c2 < 25:=by unfold lowOf; lia
theorem bhOf_lt (c0 c1 c2:Int):bhOf c0 c1 c2 < 4:=by unfold bhOf; lia
theorem lowOf_eq (c0 c1 c2:Int):([c0,c1,c2].sum.fdiv 32).fmod 25 = (lowOf c0 c1 c2:Int):=by
 rw [Int.fdiv_eq_ediv_of_nonneg _ (by lia),Int.fmod_eq_emod_of_nonneg _ (by lia)]
 unfold lowOf; lia
theorem bhOf_eq (c0 c1 c2:Int):[c0,c1,c2].sum % 4 = (bhOf c0 c1 c2:Int):=by unfold bhOf; lia
noncomputable def wsOf (c0 c1 c2:Int):List Int:=[c0 / 8,c1 / 7,c2 / 6]
theorem segA {f M:Nat} {zs:List Int} {KS:AF → VS → OB → Prop} (hl:zs.length ≤ 63) (hm:∀ c ∈ zs,c.natAbs ≤ M)
  (hK:∀ c0 c1 c2:Int,(∀ c ∈ [c0,c1,c2],c.natAbs ≤ 42 + zs.length * M) →
   runS (ss ((ev GP0 (f + 100)).s (fsc fi347)) (fi347.body.drop 11)) (VL (some (.lst (iavs zs))) (some (.lst (iavs [c0,c1,c2]))) (some (.int (lowOf c0 c1 c2))) (some (.lst (wordAV (lowOf c0 c1 c2)))) (some (.str (BH (bhOf c0 c1 c2)))) u (some (.lst (iavs (wsOf c0 c1 c2)))) (some LABELS) (some (.loc 0)) (some (.loc 1)) (some (.loc 3)) u u u u u u u u u u u u u u u u u u u u) (obA (lowOf c0 c1 c2)) KS) :
  runS (ss ((ev GP0 (f + 100)).s (fsc fi347)) fi347.body) (VL (some (.lst (iavs zs))) u u u u u u u u u u u u u u u u u u u u u u u u u u u u u u) [] KS:=by
 obtain ⟨c0,c1,c2,hc,e⟩:=w309 (F:=f + 98) (ob:=[]) hl hm (by lia)
 have hK:=hK c0 c1 c2 hc
 have hlow:=lowOf_lt c0 c1 c2
 have hbh:=bhOf_lt c0 c1 c2
 refine xss1 ?_;refine sAssign1 s347_cells rfl ?_;refine xCallI g347__law_cells rfl rfl rfl ?_;refine xEvs1 ?_;refine fNO l347_script rfl rfl ?_;refine xEvs0 ?_
 refine ⟨rfl,rfl,_,e,seqN ?_⟩
 refine xss1 ?_
 refine rS (low_ok (f + 40) c0 c1 c2 _) (seqN ?_)
 rw [lowOf_eq]
 refine xss1 ?_
 refine rS (words_ok (f + 40) _ _ _ _ _ hlow) (seqN ?_)
 refine xss1 ?_;refine sAssignB s347_behind ?_;refine xFrz ?_;refine xStr ?_
 refine ⟨_,_,rfl,?_⟩
 refine fB ?_;refine xFrz ?_;refine xCallB g347_sum rfl rfl ?_;refine xEvs1 ?_;refine fNO l347_cells rfl rfl ?_;refine xEvs0 ?_
 refine ⟨rfl,_,sumOk (xs:=[c0,c1,c2]),_,_,rfl,?_⟩
 refine fI ?_
 refine ⟨_,bMd (by lia),?_⟩
 rw [bhOf_eq]
 refine ⟨rfl,_,bh_ok _ hbh,seqN ?_⟩
 generalize hlow':lowOf c0 c1 c2 = low at *
 generalize bhOf c0 c1 c2 = bh at *
 refine xss1 ?_
 refine rS (wts_ok (f + 40) c0 c1 c2 _ _ _ _ _) (seqN ?_)
 refine xss1 ?_
 refine rS (lab_ok (f + 40) _ _ _ _ _ _ _) (seqN ?_)
 refine xss1 ?_
 refine rS (labIf_ok (f + 40) _ _ _ _ _ _ _) (seqN ?_)
 rw [Int.fdiv_eq_ediv_of_nonneg _ (by lia),Int.fdiv_eq_ediv_of_nonneg _ (by lia),Int.fdiv_eq_ediv_of_nonneg _ (by lia)]
 refine xss1 ?_;refine sAssignE s347_leads ?_;refine seqNg (ob'':=[.list []]) (gc_live (i:=8) rfl rfl) ?_;refine xss1 ?_;refine sAssignL s347_laid rfl ?_;refine xEvs1 ?_;refine xFrz ?_;refine xTup rfl ?_;refine xEvs1 ?_;refine xFrz ?_;refine xSubC ?_;refine xN l347_words rfl ?_
 refine ⟨.str (Wp (low + 0)),by rfl,_,_,rfl,?_⟩
 refine xEvs1 ?_;refine xFrz ?_;refine xStr ?_
 refine ⟨_,_,rfl,?_⟩
 refine xEvs0 ?_
 refine ⟨⟨rfl,two_sz⟩,_,_,rfl,?_⟩
 refine xEvs0 ?_
 refine ⟨⟨rfl,one_sz⟩,seqNg (ob'':=[.list [],.list [pairAV (Wp low,"alone")]]) (gc_live (i:=9) rfl rfl) ?_⟩
 refine xss1 ?_
 refine rS (mix_ok (f + 40) _ _ _ _ _ _ _ _ _) (seqNg (ob'':=[.list [],.list [pairAV (Wp low,"alone")],.list [],.inst 298 ["_headers"] [.loc 2]]) (gc_live (i:=10) rfl rfl) ?_)
 have hw:=w295 (F:=f + 98) (k:=3) (j:=2) (nm:=Wp low) (tx:="alone") (L:=[]) (ob:=[.list [],.list [pairAV (Wp low,"alone")],.list [],.inst 298 ["_headers"] [.loc 2]]) ⟨rfl,rfl⟩ (by simp) (txtOk_of (txt_wp (by lia))) (txtOk_of (by rw [cOk_cl]; exact c_al)) (by lia)
 have hfl:=flag_ok [.list [],.list [pairAV (Wp low,"alone")],.list [],.inst 298 ["_headers"] [.loc 2]] (f + 57) low hlow
 refine xss1 ?_;refine sExpr rfl ?_;refine xMethU rfl (by rfl) ?_;refine xN l347_mixture rfl ?_
 refine ⟨298,["_headers"],[.loc 2],295,fi295,rfl,by decide +kernel,by rfl,by rfl,by rfl,?_⟩
 refine xEvs1 ?_;refine xFrzO ?_;refine xCallI g347_pretty_flags rfl rfl rfl ?_;refine xEvs1 ?_;refine fBO ?_;refine fI ?_;refine fN l347_low rfl rfl ?_
 refine ⟨_,bShl rfl (by rw [bts1]; lia),?_⟩
 refine xEvs0 ?_
 rw [Int.one_mul]
 refine ⟨rfl,rfl,_,hfl,_,_,rfl,?_⟩
 refine xEvs1 ?_;refine xFrzO ?_;refine xStr ?_
 refine ⟨_,_,rfl,?_⟩
 refine xEvs0 ?_;refine xEvk0 ?_
 refine ⟨_,_,obA low,hw,?_,seqL rfl ?_⟩
 ·exact gc_top (P:=obA low) rfl rfl rfl rfl
 ·exact hK
noncomputable def RUNS:List (List Int):=[[4],[1,3],[2,2],[1,1,2],[3,1],[1,2,1],[2,1,1],[1,1,1,1]]
noncomputable def runsOf (c:Nat):List Int:=RUNS.getD c []
noncomputable def TABS:List (List (Nat × Nat)):=[[(0,3),(1,2),(3,1),(4,0)],[(0,2),(2,1),(4,0)],[(0,2),(2,2),(3,1),(1,1),(2,0),(4,0)],[(0,1),(2,1),(3,0),(1,1),(2,0),(4,0)],[(0,2),(1,2),(1,1),(2,1),(3,1),(3,0),(4,0)],[(0,1),(1,1),(3,0),(4,0)],[(0,1),(1,1),(1,1),(2,1),(3,1),(1,0),(2,0),(3,0),(3,0),(4,0)],[(0,0),(1,0),(1,0),(2,0),(3,0),(1,0),(2,0),(3,0),(3,0),(4,0)]]
noncomputable def tabOf (c:Nat):List (Nat × Nat):=TABS.getD c []
noncomputable def CNTS:List (List Int):=[[0,0,0,0,1],[0,1,0,1],[0,0,2],[0,2,1],[0,1,0,1],[0,2,1],[0,2,1],[0,4]]
noncomputable def cntOf (c:Nat):List Int:=CNTS.getD c []
noncomputable def SHARES:List Int:=[4,3,8,4,3,4,4,24]
noncomputable def shareOf (c:Nat):Int:=SHARES.getD c 0
noncomputable def SORTS:List Nat:=[0,1,2,3,1,3,3,7]
noncomputable def sortOf (c:Nat):Nat:=SORTS.getD c 0
noncomputable def setAV (s:Nat):AV:=.lst ((setL s).map fun (f:Nat) => .int (f:Int))
noncomputable def tabAV (c:Nat):List AV:=(tabOf c).map fun p => .tup [setAV p.1,.int (p.2:Int)]
noncomputable def TY (c:Nat):Str:=Txt.join "" ((runsOf c).map fun r => Txt.mul " " r ++ "\t")
theorem runs_ok (ob:OB) (n:Nat):∀ c:Nat,c < 8 → callI (ev GP0 (n + 40)) fi323 [.int c] ob = some (.lst (iavs (runsOf c)),ob):=by
 intro c hc
 match c,hc with
 | 0,_ => kernel_rfl
 | 1,_ => kernel_rfl
 | 2,_ => kernel_rfl
 | 3,_ => kernel_rfl
 | 4,_ => kernel_rfl
 | 5,_ => kernel_rfl
 | 6,_ => kernel_rfl
 | 7,_ => kernel_rfl
 | c + 8,h => lia
theorem table_ok (ob:OB) (n:Nat):∀ c:Nat,c < 8 → callI (ev GP0 (n + 40)) fi330 [.lst (iavs (runsOf c))] ob = some (.lst (tabAV c),ob):=by
 intro c hc
 match c,hc with
 | 0,_ => kernel_rfl
 | 1,_ => kernel_rfl
 | 2,_ => kernel_rfl
 | 3,_ => kernel_rfl
 | 4,_ => kernel_rfl
 | 5,_ => kernel_rfl
 | 6,_ => kernel_rfl
 | 7,_ => kernel_rfl
 | c + 8,h => lia
theorem counted_ok (ob:OB) (n:Nat) (x y z w v:AV):∀ c:Nat,c < 8 → callI (ev GP0 (n + 40)) fi337 [.inst 150 wsNs [x,.tup [.tup (iavs (cntOf c)),y],z,w,v]] ob = some (.tup [.lst (iavs (runsOf (sortOf c))),.int (shareOf c)],ob):=by
 intro c hc
 match c,hc with
 | 0,_ => kernel_rfl
 | 1,_ => kernel_rfl
 | 2,_ => kernel_rfl
 | 3,_ => kernel_rfl
 | 4,_ => kernel_rfl
 | 5,_ => kernel_rfl
 | 6,_ => kernel_rfl
 | 7,_ => kernel_rfl
 | c + 8,h => omega
noncomputable def bodyB:List Stmt:=forBody (stLaw 11)
noncomputable def stB (k:Nat):Stmt:=(bodyB[k]?).getD (.Pass default)
theorem typed_ok4 (o0 o1 o2 o3:AO) (n:Nat) (v0 v1 v2 v3 v4 v5 v6 v7 v8 v9 v10 v12 v13 v14 v15 v16 v17 v18 v19 v20 v21 v22 v23 v24 v25 v26 v27 v28 v29 v30:Option AV):∀ c:Nat,c < 8 → (ev GP0 (n + 60)).s (fsc fi347) (stB 1) (VL v0 v1 v2 v3 v4 v5 v6 v7 v8 v9 v10 (some (.lst (iavs (runsOf c)))) v12 v13 v14 v15 v16 v17 v18 v19 v20 v21 v22 v23 v24 v25 v26 v27 v28 v29 v30) [o0,o1,o2,o3] = some (.next,VL v0 v1 v2 v3 v4 v5 v6 v7 v8 v9 v10 (some (.lst (iavs (runsOf c)))) (some (.str (TY c))) v13 v14 v15 v16 v17 v18 v19 v20 v21 v22 v23 v24 v25 v26 v27 v28 v29 v30,[o0,o1,o2,o3]):=by
 intro c hc
 match c,hc with
 | 0,_ => kernel_rfl
 | 1,_ => kernel_rfl
 | 2,_ => kernel_rfl
 | 3,_ => kernel_rfl
 | 4,_ => kernel_rfl
 | 5,_ => kernel_rfl
 | 6,_ => kernel_rfl
 | 7,_ => kernel_rfl
 | c + 8,h => omega
theorem typed_ok6 (o0 o1 o2 o3 o4 o5:AO) (n:Nat) (v0 v1 v2 v3 v4 v5 v6 v7 v8 v9 v10 v12 v13 v14 v15 v16 v17 v18 v19 v20 v21 v22 v23 v24 v25 v26 v27 v28 v29 v30:Option AV):∀ c:Nat,c < 8 → (ev GP0 (n + 60)).s (fsc fi347) (stB 1) (VL v0 v1 v2 v3 v4 v5 v6 v7 v8 v9 v10 (some (.lst (iavs (runsOf c)))) v12 v13 v14 v15 v16 v17 v18 v19 v20 v21 v22 v23 v24 v25 v26 v27 v28 v29 v30) [o0,o1,o2,o3,o4,o5] = some (.next,VL v0 v1 v2 v3 v4 v5 v6 v7 v8 v9 v10 (some (.lst (iavs (runsOf c)))) (some (.str (TY c))) v13 v14 v15 v16 v17 v18 v19 v20 v21 v22 v23 v24 v25 v26 v27 v28 v29 v30,[o0,o1,o2,o3,o4,o5]):=by
 intro c hc
 match c,hc with
 | 0,_ => kernel_rfl
 | 1,_ => kernel_rfl
 | 2,_ => kernel_rfl
 | 3,_ => kernel_rfl
 | 4,_ => kernel_rfl
 | 5,_ => kernel_rfl
 | 6,_ => kernel_rfl
 | 7,_ => kernel_rfl
 | c + 8,h => omega
theorem typed_ok8 (o0 o1 o2 o3 o4 o5 o6 o7:AO) (n:Nat) (v0 v1 v2 v3 v4 v5 v6 v7 v8 v9 v10 v12 v13 v14 v15 v16 v17 v18 v19 v20 v21 v22 v23 v24 v25 v26 v27 v28 v29 v30:Option AV):∀ c:Nat,c < 8 → (ev GP0 (n + 60)).s (fsc fi347) (stB 1) (VL v0 v1 v2 v3 v4 v5 v6 v7 v8 v9 v10 (some (.lst (iavs (runsOf c)))) v12 v13 v14 v15 v16 v17 v18 v19 v20 v21 v22 v23 v24 v25 v26 v27 v28 v29 v30) [o0,o1,o2,o3,o4,o5,o6,o7] = some (.next,VL v0 v1 v2 v3 v4 v5 v6 v7 v8 v9 v10 (some (.lst (iavs (runsOf c)))) (some (.str (TY c))) v13 v14 v15 v16 v17 v18 v19 v20 v21 v22 v23 v24 v25 v26 v27 v28 v29 v30,[o0,o1,o2,o3,o4,o5,o6,o7]):=by
 intro c hc
 match c,hc with
 | 0,_ => kernel_rfl
 | 1,_ => kernel_rfl
 | 2,_ => kernel_rfl
 | 3,_ => kernel_rfl
 | 4,_ => kernel_rfl
 | 5,_ => kernel_rfl
 | 6,_ => kernel_rfl
 | 7,_ => kernel_rfl
 | c + 8,h => omega
theorem counts_ok4 (o0 o1 o2 o3 o4:AO) (n:Nat) (v0 v1 v2 v3 v4 v5 v6 v7 v8 v9 v10 v12 v13 v14 v15 v16 v17 v18 v19 v20 v21 v22 v23 v24 v25 v26 v27 v28 v29 v30:Option AV):∀ c:Nat,c < 8 → (ev GP0 (n + 60)).s (fsc fi347) (stB 3) (VL v0 v1 v2 v3 v4 v5 v6 v7 v8 v9 v10 (some (.lst (iavs (runsOf c)))) v12 v13 v14 v15 v16 v17 v18 v19 v20 v21 v22 v23 v24 v25 v26 v27 v28 v29 v30) [o0,o1,o2,o3,o4] = some (.next,VL v0 v1 v2 v3 v4 v5 v6 v7 v8 v9 v10 (some (.lst (iavs (runsOf c)))) v12 v13 (some (.tup (iavs (cntOf c)))) v15 v16 v17 v18 v19 v20 v21 v22 v23 v24 v25 v26 v27 v28 v29 v30,[o0,o1,o2,o3,o4]):=by
 intro c hc
 match c,hc with
 | 0,_ => kernel_rfl
 | 1,_ => kernel_rfl
 | 2,_ => kernel_rfl
 | 3,_ => kernel_rfl
 | 4,_ => kernel_rfl
 | 5,_ => kernel_rfl
 | 6,_ => kernel_rfl
 | 7,_ => kernel_rfl
 | c + 8,h => omega
theorem counts_ok6 (o0 o1 o2 o3 o4 o5 o6:AO) (n:Nat) (v0 v1 v2 v3 v4 v5 v6 v7 v8 v9 v10 v12 v13 v14 v15 v16 v17 v18 v19 v20 v21 v22 v23 v24 v25 v26 v27 v28 v29 v30:Option AV):∀ c:Nat,c < 8 → (ev GP0 (n + 60)).s (fsc fi347) (stB 3) (VL v0 v1 v2 v3 v4 v5 v6 v7 v8 v9 v10 (some (.lst (iavs (runsOf c)))) v12 v13 v14 v15 v16 v17 v18 v19 v20 v21 v22 v23 v24 v25 v26 v27 v28 v29 v30) [o0,o1,o2,o3,o4,o5,o6] = some (.next,VL v0 v1 v2 v3 v4 v5 v6 v7 v8 v9 v10 (some (.lst (iavs (runsOf c)))) v12 v13 (some (.tup (iavs (cntOf c)))) v15 v16 v17 v18 v19 v20 v21 v22 v23 v24 v25 v26 v27 v28 v29 v30,[o0,o1,o2,o3,o4,o5,o6]):=by
 intro c hc
 match c,hc with
 | 0,_ => kernel_rfl
 | 1,_ => kernel_rfl
 | 2,_ => kernel_rfl
 | 3,_ => kernel_rfl
 | 4,_ => kernel_rfl
 | 5,_ => kernel_rfl
 | 6,_ => kernel_rfl
 | 7,_ => kernel_rfl
 | c + 8,h => omega
theorem counts_ok8 (o0 o1 o2 o3 o4 o5 o6 o7 o8:AO) (n:Nat) (v0 v1 v2 v3 v4 v5 v6 v7 v8 v9 v10 v12 v13 v14 v15 v16 v17 v18 v19 v20 v21 v22 v23 v24 v25 v26 v27 v28 v29 v30:Option AV):∀ c:Nat,c < 8 → (ev GP0 (n + 60)).s (fsc fi347) (stB 3) (VL v0 v1 v2 v3 v4 v5 v6 v7 v8 v9 v10 (some (.lst (iavs (runsOf c)))) v12 v13 v14 v15 v16 v17 v18 v19 v20 v21 v22 v23 v24 v25 v26 v27 v28 v29 v30) [o0,o1,o2,o3,o4,o5,o6,o7,o8] = some (.next,VL v0 v1 v2 v3 v4 v5 v6 v7 v8 v9 v10 (some (.lst (iavs (runsOf c)))) v12 v13 (some (.tup (iavs (cntOf c)))) v15 v16 v17 v18 v19 v20 v21 v22 v23 v24 v25 v26 v27 v28 v29 v30,[o0,o1,o2,o3,o4,o5,o6,o7,o8]):=by
 intro c hc
 match c,hc with
 | 0,_ => kernel_rfl
 | 1,_ => kernel_rfl
 | 2,_ => kernel_rfl
 | 3,_ => kernel_rfl
 | 4,_ => kernel_rfl
 | 5,_ => kernel_rfl
 | 6,_ => kernel_rfl
 | 7,_ => kernel_rfl
 | c + 8,h => omega
noncomputable def XY (k:Nat):Str:=Txt.item "xyz" k
noncomputable def TL (k:Nat):Str:=Txt.mul " \t" k
noncomputable def LS (c b k:Nat):Str:=((TY c ++ BH b) ++ XY k) ++ TL k
noncomputable def B0 (c b:Nat):Str:=(TY c ++ BH b) ++ " "
noncomputable def B1 (c b:Nat):Str:=(TY c ++ TY c) ++ BH b
noncomputable def B2 (c b:Nat):Str:=("\t" ++ TY c) ++ BH b
noncomputable def lenOf (c:Nat):Nat:=(runsOf c).length
theorem ty_len:∀ c < 8,(TY c).length ≤ 8:=by decide +kernel
theorem bh_len:∀ b < 4,(BH b).length ≤ 3:=by decide +kernel
theorem xy_len:∀ k < 3,(XY k).length = 1 ∧ (TL k).length ≤ 4:=by decide +kernel
theorem ls_ok:∀ c < 8,∀ b < 4,∀ k < 3,wsOk (LS c b k) = true:=by decide +kernel
theorem ls_v:∀ c < 8,∀ b < 4,∀ k < 3,(wsV (LS c b k)).1 = b ∧ (wsV (LS c b k)).2.1 = 4 + lenOf c + b ∧ (wsV (LS c b k)).2.2.1 = lenOf c ∧ (wsV (LS c b k)).2.2.2 = cntOf c:=by decide +kernel
theorem bb_ok:∀ c < 8,∀ b < 4,wsOk (B0 c b) = true ∧ wsOk (B1 c b) = true ∧ wsOk (B2 c b) = true:=by decide +kernel
theorem bb_ne:∀ c < 8,∀ b < 4,((cntOf c,b) ≠ ((wsV (B0 c b)).2.2.2,(wsV (B0 c b)).1)) ∧ ((cntOf c,b) ≠ ((wsV (B1 c b)).2.2.2,(wsV (B1 c b)).1)) ∧ ((cntOf c,b) ≠ ((wsV (B2 c b)).2.2.2,(wsV (B2 c b)).1)):=by decide +kernel
theorem addS {x y:Str} (h:x.length + y.length ≤ 1000):bopF .Add (.str x) (.str y) = some (.str (x ++ y)):=by
 have hs:sizeLine = 2 ^ 24:=rfl
 exact if_pos (by lia)
theorem len_app {x y:Str}:(x ++ y).length = x.length + y.length:=by
 show (x.cps ++ y.cps).size = _
 rw [Array.size_append]; rfl
theorem xyz_ok (k:Nat) (hk:k < 3) (ob:OB):subsF ob (.str "xyz") k = some (.str (XY k)):=by
 match k,hk with
 | 0,_ => kernel_rfl
 | 1,_ => kernel_rfl
 | 2,_ => kernel_rfl
theorem tail_ok (k:Nat) (hk:k < 3):bopF .Mult (.str " \t") (.int k) = some (.str (TL k)):=by
 match k,hk with
 | 0,_ => kernel_rfl
 | 1,_ => kernel_rfl
 | 2,_ => kernel_rfl
theorem l126_self:ldIx (fsc fi126) "self" = some 0:=by kernel_rfl
theorem s126_self:stIx (fsc fi126) "self" = some 0:=by kernel_rfl
theorem l126_other:ldIx (fsc fi126) "other" = some 1:=by kernel_rfl
theorem s126_other:stIx (fsc fi126) "other" = some 1:=by kernel_rfl
noncomputable def normAV (cs:List Int) (b:Nat):AV:=.tup [.tup (iavs cs),.int b]
theorem norm_like {cs:List Int} {b:Nat}:okT (normAV cs b) = true ∧ dpt 10 (normAV cs b) = true:=by
 have h1:okTs (iavs cs) = true:=by
  unfold iavs
  induction cs with
  | nil => rfl
  | cons c cs ih => rw [List.map_cons]; show (true && _) = true; rw [Bool.true_and]; exact ih
 have h2:(iavs cs).all (dpt 8) = true:=by
  unfold iavs
  rw [List.all_eq_true]
  intro x hx
  obtain ⟨c,_,rfl⟩:=List.mem_map.mp hx
  rfl
 constructor
 ·show (okTs (iavs cs) && (true && true)) = true
  rw [h1]; rfl
 ·show ((iavs cs).all (dpt 8) && (true && true)) = true
  rw [h2]; rfl
theorem iavs_eqv:∀ {a b:List Int},PyData.eqvAll (toPs (iavs a)) (toPs (iavs b)) = decide (a = b)
 | [],[] => by simp [iavs,toPs,PyData.eqvAll]
 | [],y :: ys => by simp [iavs,toPs,PyData.eqvAll]
 | x :: xs,[] => by simp [iavs,toPs,PyData.eqvAll]
 | x :: xs,y :: ys => by
  have ih:=iavs_eqv (a:=xs) (b:=ys)
  have e:iavs (x :: xs) = .int x :: iavs xs:=rfl
  have e2:iavs (y :: ys) = .int y :: iavs ys:=rfl
  rw [e,e2]
  simp only [toPs,PyData.eqvAll,ih,AV.toP,PyData.eqv]
  by_cases h1:x = y <;> by_cases h2:xs = ys <;> simp [h1,h2]
theorem norm_eq {cs ds:List Int} {b d:Nat}:copF .Eq (normAV cs b) (normAV ds d) = some (decide ((cs,b) = (ds,d))):=by
 have h1:=norm_like (cs:=cs) (b:=b)
 have h2:=norm_like (cs:=ds) (b:=d)
 obtain ⟨a1,a2⟩:=shaped_of h1.1 h1.2
 obtain ⟨b1,b2⟩:=shaped_of h2.1 h2.2
 have:copF .Eq (normAV cs b) (normAV ds d) = if ((normAV cs b).isP && (normAV ds d).isP && shaped (normAV cs b).toP && shaped (normAV ds d).toP) = true then some (PyData.eqv (normAV cs b).toP (normAV ds d).toP) else none:=rfl
 rw [this,a1,b1,a2,b2,if_pos (by rfl)]
 congr 1
 unfold normAV
 simp only [AV.toP,toPs,PyData.eqv,PyData.eqvAll,iavs_eqv]
 by_cases h1:cs = ds <;> by_cases h2:b = d <;> first | (simp [h1,h2]; done) | (simp [h1,h2]; lia)
noncomputable def leadXs (cs:List Int) (b nt n:Nat) (x:Str):List AV:=[.bool (decide ((cs.length:Int) ≤ 1)),normAV cs b,.int nt,.int n,.str x]
theorem w126 {F:Nat} {a a':AV} {cs ds:List Int} {b d nt n nt' n':Nat} {x x':Str} {ob:OB} (h1:instOf ob a = some (150,wsNs,leadXs cs b nt n x)) (h2:instOf ob a' = some (150,wsNs,leadXs ds d nt' n' x')) (hn:notCst a = true ∧ notClo a = true) (hn':notCst a' = true ∧ notClo a' = true) (hF:10 ≤ F) :
  callS (ev GP0 F) fi126 [a,a'] [] ob = some (.bool (decide ((cs,b) = (ds,d))),ob):=by
 obtain ⟨f,rfl⟩:=Nat.exists_eq_add_of_le' hF
 refine callS_of ⟨by rfl,by rfl,by show (notClo a && (notClo a' && true)) = true; rw [hn.2,hn'.2]; rfl⟩ (V:=[some a,some a']) (by kernel_rfl) ?_
 refine xss1 ?_;refine sRet1 (.inl rfl) ?_;refine xCmpE rfl ?_;refine xFrz ?_;refine xAttrI rfl ?_;refine xN l126_self rfl ?_
 refine ⟨150,wsNs,_,normAV cs b,hn.1,h1,by rfl,by rfl,rfl,_,_,rfl,?_⟩
 refine xFrz ?_;refine xAttrI rfl ?_;refine xN l126_other rfl ?_
 refine ⟨150,wsNs,_,normAV ds d,hn'.1,h2,by rfl,by rfl,rfl,_,_,rfl,?_⟩
 exact ⟨_,norm_eq,seqR ⟨.inl ⟨rfl,rfl⟩,rfl⟩⟩
theorem cnt_len:∀ c < 8,(cntOf c).length ≤ 5:=by decide +kernel
section
set_option backward.match.sparseCases false
noncomputable def obB (le la hd:List AV) (tail:OB):OB:=[.list le,.list la,.list hd,.inst 298 ["_headers"] [.loc 2]] ++ tail
theorem obB_len {le la hd tail}:(obB le la hd tail).length = 4 + tail.length:=by unfold obB; simp; lia
theorem obB_app {le la hd tail t}:obB le la hd tail ++ t = obB le la hd (tail ++ t):=by unfold obB; simp
theorem obB_ref {le la hd tail} (hj:Junk tail):NoRef (obB le la hd tail):=fun i hi => by
 rw [obB_len] at hi
 unfold obB
 have h1:tail.any (refAO i) = false:=List.any_eq_false.mpr fun o ho => by rw [hj o ho i]; simp
 have h2:(2 == i) = false:=by simp; lia
 have h3:([.list le,.list la,.list hd,.inst 298 ["_headers"] [.loc 2]]:OB).any (refAO i) = false:=by
  show (false || (false || (false || (((2 == i) || false) || false)))) = false
  rw [h2]; rfl
 rw [List.any_append,h1,h3]; rfl
theorem obB_set {le la hd tail x i} (hi:4 ≤ i):(obB le la hd tail).set i x = obB le la hd (tail.set (i - 4) x):=by
 unfold obB
 rw [List.set_append_right _ _ (by simpa using hi)]
 simp
theorem obB_get {le la hd tail i} (hi:4 ≤ i):(obB le la hd tail)[i]? = tail[i - 4]?:=by
 unfold obB
 rw [List.getElem?_append_right (by simpa using hi)]
 simp
theorem tr_inst {ob:OB} {j:Nat} {C:Addr} {ns:List Str} {xs:List AV} (h:ob[j]? = some (.inst C ns xs)) (h1:ns.length ≠ 0 ∧ xs.length ≠ 0 ∧ trees xs = true):tr ob (.loc j) = some (.inst C ns xs,ob.set j (.ifrz C ns xs)):=by
 refine bindI h (if_neg fun q => ?_)
 rcases q with q | q | q
 ·exact h1.1 q
 ·exact h1.2.1 q
 ·exact Bool.noConfusion (q.symm.trans h1.2.2)
theorem lenStr {x:Str} {ob:OB} (h:x.length ≤ sizeLine):bfn "len" [.str x] ob = some (.int x.length,ob):=by
 have:bfn "len" [.str x] ob = (lenF (.str x) ob).bind fun n => if n ≤ sizeLine then some (.int n,ob) else none:=rfl
 rw [this]
 exact if_pos h
theorem bh_len':∀ b < 4,(BH b).length = b:=by decide +kernel
theorem runs_len:∀ c < 8,(runsOf c).length ≤ 4:=by decide +kernel
noncomputable def leadO (c b k:Nat):List AV:=leadXs (cntOf c) b (lenOf c) (4 + lenOf c + b) (LS c b k)
theorem lead_xs {c b k:Nat} (hc:c < 8) (hb:b < 4) (hk:k < 3):wsXs (LS c b k) = leadO c b k:=by
 obtain ⟨h1,h2,h3,h4⟩:=ls_v c hc b hb k hk
 unfold wsXs leadO leadXs normAV
 rw [h1,h2,h3,h4]
theorem ws_lead (x:Str):wsXs x = leadXs (wsV x).2.2.2 (wsV x).1 (wsV x).2.2.1 (wsV x).2.1 x:=rfl
theorem lead_tree {cs b nt n x}:(wsNs.length ≠ 0 ∧ (leadXs cs b nt n x).length ≠ 0 ∧ trees (leadXs cs b nt n x) = true):=⟨by decide,by simp [leadXs],rfl⟩
theorem exc {α:Type} {n:Nat} {l:List α} (h:l.length = n + 1):∃ a t,l = a :: t ∧ t.length = n:=by
 cases l with
 | nil => exact absurd h (Nat.succ_ne_zero n).symm
 | cons a t => exact ⟨a,t,rfl,Nat.succ.inj h⟩
theorem ex2 {α:Type} {n:Nat} {l:List α} (h:l.length = n + 2):∃ a b t,l = a :: b :: t ∧ t.length = n:=by
 obtain ⟨a,l1,rfl,h1⟩:=exc h
 obtain ⟨b,l2,rfl,h2⟩:=exc h1
 exact ⟨a,b,l2,rfl,h2⟩
theorem ex4 {α:Type} {n:Nat} {l:List α} (h:l.length = n + 4):∃ a b c d t,l = a :: b :: c :: d :: t ∧ t.length = n:=by
 obtain ⟨a,b,l1,rfl,h1⟩:=ex2 h
 obtain ⟨c,d,l2,rfl,h2⟩:=ex2 h1
 exact ⟨a,b,c,d,l2,rfl,h2⟩
theorem typed_gen {f c k:Nat} (hc:c < 8) (hk:k < 3) {ob:OB} (hob:ob.length = 4 + 2 * k) (v0 v1 v2 v3 v4 v5 v6 v7 v8 v9 v10 v12 v13 v14 v15 v16 v17 v18:Option AV) :
  (ev GP0 (f + 60)).s (fsc fi347) (stB 1) (VL v0 v1 v2 v3 v4 v5 v6 v7 v8 v9 v10 (some (.lst (iavs (runsOf c)))) v12 v13 v14 v15 v16 v17 v18 u u u u u u u u u u u u) ob = some (.next,VL v0 v1 v2 v3 v4 v5 v6 v7 v8 v9 v10 (some (.lst (iavs (runsOf c)))) (some (.str (TY c))) v13 v14 v15 v16 v17 v18 u u u u u u u u u u u u,ob):=by
 obtain ⟨a,b,c',d,ob,rfl,h1⟩:=ex4 (n:=2 * k) (hob.trans (Nat.add_comm _ _))
 clear hob
 revert h1
 refine bd3 (P:=fun k => ob.length = 2 * k → _) (fun h => ?_) (fun h => ?_) (fun h => ?_) k hk
 ·cases List.eq_nil_of_length_eq_zero h
  exact typed_ok4 a b c' d f _ _ _ _ _ _ _ _ _ _ _ _ _ _ _ _ _ _ _ _ _ _ _ _ _ _ _ _ _ _ c hc
 ·obtain ⟨e,g,ob,rfl,h1⟩:=ex2 h
  cases List.eq_nil_of_length_eq_zero h1
  exact typed_ok6 a b c' d e g f _ _ _ _ _ _ _ _ _ _ _ _ _ _ _ _ _ _ _ _ _ _ _ _ _ _ _ _ _ _ c hc
 ·obtain ⟨e,g,i,j,ob,rfl,h1⟩:=ex4 h
  cases List.eq_nil_of_length_eq_zero h1
  exact typed_ok8 a b c' d e g i j f _ _ _ _ _ _ _ _ _ _ _ _ _ _ _ _ _ _ _ _ _ _ _ _ _ _ _ _ _ _ c hc
theorem counts_gen {f c k:Nat} (hc:c < 8) (hk:k < 3) {ob:OB} (hob:ob.length = 5 + 2 * k) (v0 v1 v2 v3 v4 v5 v6 v7 v8 v9 v10 v12 v13 v14 v15 v16 v17 v18:Option AV) :
  (ev GP0 (f + 60)).s (fsc fi347) (stB 3) (VL v0 v1 v2 v3 v4 v5 v6 v7 v8 v9 v10 (some (.lst (iavs (runsOf c)))) v12 v13 v14 v15 v16 v17 v18 u u u u u u u u u u u u) ob = some (.next,VL v0 v1 v2 v3 v4 v5 v6 v7 v8 v9 v10 (some (.lst (iavs (runsOf c)))) v12 v13 (some (.tup (iavs (cntOf c)))) v15 v16 v17 v18 u u u u u u u u u u u u,ob):=by
 obtain ⟨a,b,c',d,ob,rfl,h1⟩:=ex4 (n:=2 * k + 1) (hob.trans (by lia))
 clear hob
 obtain ⟨j,ob,rfl,h2⟩:=exc h1
 clear h1
 revert h2
 refine bd3 (P:=fun k => ob.length = 2 * k → _) (fun h => ?_) (fun h => ?_) (fun h => ?_) k hk
 ·cases List.eq_nil_of_length_eq_zero h
  exact counts_ok4 a b c' d j f _ _ _ _ _ _ _ _ _ _ _ _ _ _ _ _ _ _ _ _ _ _ _ _ _ _ _ _ _ _ c hc
 ·obtain ⟨e,g,ob,rfl,h1⟩:=ex2 h
  cases List.eq_nil_of_length_eq_zero h1
  exact counts_ok6 a b c' d j e g f _ _ _ _ _ _ _ _ _ _ _ _ _ _ _ _ _ _ _ _ _ _ _ _ _ _ _ _ _ _ c hc
 ·obtain ⟨e,g,h',i,ob,rfl,h1⟩:=ex4 h
  cases List.eq_nil_of_length_eq_zero h1
  exact counts_ok8 a b c' d j e g h' i f _ _ _ _ _ _ _ _ _ _ _ _ _ _ _ _ _ _ _ _ _ _ _ _ _ _ _ _ _ _ c hc
theorem three_sz:3 ≤ sizeLine:=by decide
noncomputable def cmpL:Stmt → Expr
 | .If (.Compare l _ _ _) _ _ _ => l
 | _ => .Constant .none 0 default
noncomputable def eltOf:Expr → Expr
 | .ListComp e _ _ _ => e
 | e => e
noncomputable def scpOf:Expr → Scope
 | .ListComp _ _ s _ => s
 | _ => default
noncomputable def eltB:Expr:=eltOf (cmpL (stB 6))
noncomputable def scB:Sc:=compSc (fsc fi347) (scpOf (cmpL (stB 6)))
theorem bent1 {f c b k l:Nat} {ob:OB} {y:Str} {K:AV → OB → Prop} (hy:wsOk y = true) (hne:(cntOf c,b) ≠ ((wsV y).2.2.2,(wsV y).1)) (hl:ob[l]? = some (.inst 150 wsNs (leadO c b k))) (hr:NoRef ob) (h:K (.bool true) ob) :
  runE (frz ((ev GP0 (f + 50)).e scB eltB)) [none,some (.str y),none,some (.loc l)] ob K:=by
 obtain ⟨ob2,e1,e2⟩:=wsCall (F:=f + 47) (Ob:=ob) hy (by lia) hr
 have e3:(ob ++ [AO.inst 150 wsNs (wsXs y)])[ob.length]? = some (.inst 150 wsNs (wsXs y)):=at_mid rfl
 have c1:=w126 (F:=f + 48) (a:=.loc l) (a':=.inst 150 wsNs (wsXs y)) (cs:=cntOf c) (ds:=(wsV y).2.2.2) (b:=b) (d:=(wsV y).1) (ob:=ob ++ [.ifrz 150 wsNs (wsXs y)]) (instLoc (at_app hl)) rfl ⟨rfl,rfl⟩ ⟨rfl,rfl⟩ (by lia)
 rw [decide_eq_false hne] at c1
 refine xFrz ?_;refine xCmpE rfl ?_;refine xFrz ?_;refine xMethU rfl (by rfl) ?_;refine xN (i:=3) (by kernel_rfl) rfl ?_
 refine ⟨150,wsNs,_,126,fi126,instLoc hl,by decide +kernel,by rfl,by rfl,by rfl,?_⟩
 refine xEvs1 ?_;refine xFrzO ?_;refine xCallC (C:=150) (fI:=105) (by kernel_rfl) rfl rfl ?_;refine xEvs1 ?_;refine xN (i:=1) (by kernel_rfl) rfl ?_;refine xEvs0 ?_
 refine ⟨_,_,_,e1,e2,_,_,tr_inst e3 (by rw [ws_lead]; exact lead_tree),?_⟩
 rw [set_mid rfl]
 refine xEvs0 ?_;refine xEvk0 ?_
 refine ⟨_,_,ob,c1,gc_top (by simp) rfl (hr _ (Nat.le_refl _)) rfl,_,_,rfl,?_⟩
 refine xFrz ?_;refine xBool ?_
 refine ⟨_,_,rfl,?_⟩
 exact ⟨true,rfl,_,_,rfl,h⟩
theorem turnB1 {f c b k:Nat} {w0:AV} {cs:List Int} {vn words ws row typed lead counts bent flags passed text:Option AV} {low:Nat} {le la hd:List AV} {tail:OB} {KS:AF → VS → OB → Prop} (hc:c < 8) (hb:b < 4) (hk:k < 3) (ht:tail.length = 2 * k) (hj:Junk tail) (h3:cs.length = 3) (hcode:cs.getD k 0 % (8 - (k:Int)) = (c:Int)) (hle:le.length ≤ 100)
  (hK:runS (ss ((ev GP0 (f + 99)).s (fsc fi347)) (bodyB.drop 8)) (VL vn (some (.lst (iavs cs))) (some (.int low)) words (some (.str (BH b))) (some (.int k)) ws (some LABELS) (some (.loc 0)) (some (.loc 1)) (some (.loc 3)) (some (.lst (iavs (runsOf c)))) (some (.str (TY c))) (some (.loc (4 + 2 * k))) (some (.tup (iavs (cntOf c)))) (some (.loc (5 + 2 * k))) flags passed text u u u u u u u u u u u u)
   (obB (le ++ [.inst 150 wsNs (leadO c b k)]) la hd (tail ++ [.ifrz 150 wsNs (leadO c b k),.frz [.str (B0 c b),.str (B1 c b),.str (B2 c b)]])) KS) :
  runS (ss ((ev GP0 (f + 99)).s (fsc fi347)) bodyB) (VL vn (some (.lst (iavs cs))) (some (.int low)) words (some (.str (BH b))) (some (.int k)) ws (some LABELS) (some (.loc 0)) (some (.loc 1)) (some (.loc 3)) row typed lead counts bent flags passed text u u u u u u u u u u u u) (obB le la hd tail) KS:=by
 have hs:sizeLine = 2 ^ 24:=rfl
 have hol:(obB le la hd tail).length = 4 + 2 * k:=by rw [obB_len,ht]
 have lt:=ty_len c hc
 have lb:=bh_len b hb
 have lb':=bh_len' b hb
 obtain ⟨lx,ll⟩:=xy_len k hk
 have lr:=runs_len c hc
 have hrun:=runs_ok (obB le la hd tail) (f + 57) c hc
 refine xss1 ?_;refine sAssign1 s347_row rfl ?_;refine xCallI g347__law_runs rfl rfl rfl ?_;refine xEvs1 ?_;refine fBO ?_;refine xFrz ?_;refine xSubN ?_;refine xN l347_cells rfl ?_;refine xN l347_k rfl ?_
 refine ⟨_,_,rfl,subsLst.trans ((getIx_nat (by lia)).trans (iavs_get (by lia))),_,_,rfl,?_⟩
 refine fB ?_;refine fI ?_;refine fN l347_k rfl rfl ?_
 refine ⟨_,bSub,?_⟩
 refine ⟨_,bMd (by lia),?_⟩
 rw [hcode]
 refine xEvs0 ?_
 refine ⟨rfl,rfl,_,hrun,seqN ?_⟩
 refine xss1 ?_
 refine rS (typed_gen (f:=f + 39) hc hk hol _ _ _ _ _ _ _ _ _ _ _ _ _ _ _ _ _ _) (seqN ?_)
 obtain ⟨ob2,e1,e2⟩:=wsCall (F:=f + 97) (Ob:=obB le la hd tail) (ls_ok c hc b hb k hk) (by lia) (obB_ref hj)
 rw [hol,lead_xs hc hb hk,obB_app] at e2
 rw [hol] at e1
 refine xss1 ?_;refine sAssign1 s347_lead rfl ?_;refine xCallC g347_Whitespace rfl rfl ?_;refine xEvs1 ?_;refine xBin ?_;refine xFrz ?_;refine xBin ?_;refine xFrz ?_;refine xBin ?_;refine fN l347_typed rfl rfl ?_;refine fN l347_behind rfl rfl ?_
 refine ⟨_,addS (by lia),_,_,rfl,?_⟩
 refine xFrz ?_;refine xSubN ?_;refine xStr ?_;refine xN l347_k rfl ?_
 refine ⟨_,_,rfl,xyz_ok k hk _,_,_,rfl,_,addS (by rw [len_app]; lia),_,_,rfl,?_⟩
 refine xFrz ?_;refine xBin ?_;refine xFrz ?_;refine xStr ?_
 refine ⟨_,_,rfl,?_⟩
 refine fN l347_k rfl rfl ?_
 refine ⟨_,tail_ok k hk,_,_,rfl,_,addS (by rw [len_app,len_app]; lia),?_⟩
 refine xEvs0 ?_
 refine ⟨_,_,_,e1,(congrArg (fun m => gcN (.ret (.loc (4 + 2 * k))) [] (ob2.length - m) ob2) hol).trans e2,seqNg (gc_live (i:=13) rfl (by rw [obB_len]; simp; lia)) ?_⟩
 have hol2:(obB le la hd (tail ++ [.inst 150 wsNs (leadO c b k)])).length = 5 + 2 * k:=by rw [obB_len]; simp; lia
 have hat:(obB le la hd (tail ++ [.inst 150 wsNs (leadO c b k)]))[4 + 2 * k]? = some (.inst 150 wsNs (leadO c b k)):=by rw [obB_get (by lia)]; exact at_mid (by lia)
 refine xss1 ?_
 refine rS (counts_gen (f:=f + 39) hc hk hol2 _ _ _ _ _ _ _ _ _ _ _ _ _ _ _ _ _ _) (seqN ?_)
 refine xss1 ?_;refine sIf1 ?_;refine iCmp1 rfl rfl ?_;refine xFrz ?_;refine xTup rfl ?_;refine xEvs1 ?_;refine xFrz ?_;refine xAttrI rfl ?_;refine xN l347_lead rfl ?_
 refine ⟨150,wsNs,_,_,rfl,instLoc hat,by rfl,by rfl,rfl,_,_,rfl,?_⟩
 refine xEvs1 ?_;refine xFrz ?_;refine xAttrI rfl ?_;refine xN l347_lead rfl ?_
 refine ⟨150,wsNs,_,_,rfl,instLoc hat,by rfl,by rfl,rfl,_,_,rfl,?_⟩
 refine xEvs1 ?_;refine xFrz ?_;refine xAttrI rfl ?_;refine xN l347_lead rfl ?_
 refine ⟨150,wsNs,_,_,rfl,instLoc hat,by rfl,by rfl,rfl,_,_,rfl,?_⟩
 refine xEvs0 ?_
 refine ⟨⟨rfl,three_sz⟩,_,_,rfl,?_⟩
 refine xFrz ?_;refine xTup rfl ?_;refine xEvs1 ?_;refine fB ?_;refine fB ?_;refine fI ?_;refine xFrz ?_;refine xCallL g347_len rfl rfl ?_;refine xEvs1 ?_;refine xN l347_row rfl ?_;refine xEvs0 ?_
 refine ⟨rfl,_,lenLst (by rw [iavs_len]; lia),_,_,rfl,?_⟩
 refine ⟨_,bAdd,?_⟩
 refine xFrz ?_;refine xCallL g347_len rfl rfl ?_;refine xEvs1 ?_;refine xN l347_behind rfl ?_;refine xEvs0 ?_
 refine ⟨rfl,_,lenStr (by lia),_,_,rfl,?_⟩
 refine ⟨_,bAdd,?_⟩
 refine xEvs1 ?_;refine xFrz ?_;refine xCallL g347_len rfl rfl ?_;refine xEvs1 ?_;refine xN l347_row rfl ?_;refine xEvs0 ?_
 refine ⟨rfl,_,lenLst (by rw [iavs_len]; lia),_,_,rfl,?_⟩
 refine xEvs1 ?_;refine xFrz ?_;refine xTup rfl ?_;refine xEvs1 ?_;refine fN l347_counts rfl rfl ?_;refine xEvs1 ?_;refine xFrz ?_;refine xCallL g347_len rfl rfl ?_;refine xEvs1 ?_;refine xN l347_behind rfl ?_;refine xEvs0 ?_
 refine ⟨rfl,_,lenStr (by lia),_,_,rfl,?_⟩
 refine xEvs0 ?_
 refine ⟨⟨rfl,two_sz⟩,_,_,rfl,?_⟩
 refine xEvs0 ?_
 have el:(4:Int) + ((iavs (runsOf c)).length:Int) + ((BH b).length:Int) = ((4 + lenOf c + b:Nat):Int):=by rw [iavs_len,lb']; unfold lenOf; lia
 have er:((iavs (runsOf c)).length:Int) = ((lenOf c:Nat):Int):=by rw [iavs_len]; rfl
 have eb:((BH b).length:Int) = (b:Int):=by rw [lb']
 refine ⟨⟨rfl,three_sz⟩,_,_,rfl,false,?_,Br.f ?_⟩
 ·rw [el,er,eb]
  have hl:=norm_like (cs:=cntOf c) (b:=b)
  have h1:okT (.tup [.int ((4 + lenOf c + b:Nat):Int),.int ((lenOf c:Nat):Int),normAV (cntOf c) b]) = true:=by
   show (true && (true && (okT (normAV (cntOf c) b) && true))) = true
   rw [hl.1]; rfl
  have h2:dpt 10 (.tup [.int ((4 + lenOf c + b:Nat):Int),.int ((lenOf c:Nat):Int),normAV (cntOf c) b]) = true:=by
   have h3:(iavs (cntOf c)).all (dpt 7) = true:=by
    rw [List.all_eq_true]
    intro x hx
    obtain ⟨d,_,rfl⟩:=List.mem_map.mp hx
    rfl
   show (true && (true && (((iavs (cntOf c)).all (dpt 7) && (true && true)) && true))) = true
   rw [h3]; rfl
  exact cNeSame h1 h2
 refine xss0 ?_;refine seqN ?_;refine xss1 ?_;refine sAssignL s347_bent rfl ?_;refine xEvs1 ?_;refine xFrz ?_;refine xBin ?_;refine xFrz ?_;refine xBin ?_;refine fN l347_typed rfl rfl ?_;refine fN l347_behind rfl rfl ?_
 refine ⟨_,addS (by lia),_,_,rfl,?_⟩
 refine xFrz ?_;refine xStr ?_
 refine ⟨_,_,rfl,?_⟩
 refine ⟨_,addS (by rw [len_app]; rw [show (" " : Str).length = 1 by decide +kernel]; lia),_,_,rfl,?_⟩
 refine xEvs1 ?_;refine xFrz ?_;refine xBin ?_;refine xFrz ?_;refine xBin ?_;refine fN l347_typed rfl rfl ?_;refine fN l347_typed rfl rfl ?_
 refine ⟨_,addS (by lia),_,_,rfl,?_⟩
 refine fN l347_behind rfl rfl ?_
 refine ⟨_,addS (by rw [len_app]; lia),_,_,rfl,?_⟩
 refine xEvs1 ?_;refine xFrz ?_;refine xBin ?_;refine xFrz ?_;refine xBin ?_;refine xFrz ?_;refine xStr ?_
 refine ⟨_,_,rfl,?_⟩
 refine fN l347_typed rfl rfl ?_
 refine ⟨_,addS (by rw [show ("\t" : Str).length = 1 by decide +kernel]; lia),_,_,rfl,?_⟩
 refine fN l347_behind rfl rfl ?_
 refine ⟨_,addS (by rw [len_app]; rw [show ("\t" : Str).length = 1 by decide +kernel]; lia),_,_,rfl,?_⟩
 refine xEvs0 ?_
 refine ⟨⟨rfl,three_sz⟩,?_⟩
 rw [obB_app,hol2]
 refine seqNg (gc_live (i:=15) rfl (by rw [obB_len]; simp; lia)) ?_
 show runS _ _ (obB le la hd (tail ++ [AO.inst 150 wsNs (leadO c b k)] ++ [AO.list [.str (B0 c b),.str (B1 c b),.str (B2 c b)]])) _
 have ea:tail ++ [AO.inst 150 wsNs (leadO c b k)] ++ [AO.list [.str (B0 c b),.str (B1 c b),.str (B2 c b)]] = (tail ++ [AO.inst 150 wsNs (leadO c b k)]) ++ [AO.list [.str (B0 c b),.str (B1 c b),.str (B2 c b)]]:=rfl
 have hbe:(obB le la hd (tail ++ [AO.inst 150 wsNs (leadO c b k)] ++ [AO.list [.str (B0 c b),.str (B1 c b),.str (B2 c b)]]))[5 + 2 * k]? = some (.list [.str (B0 c b),.str (B1 c b),.str (B2 c b)]):=by
  rw [obB_get (by lia)]; exact at_mid (by simp; lia)
 have hbs:(obB le la hd (tail ++ [AO.inst 150 wsNs (leadO c b k)] ++ [AO.list [.str (B0 c b),.str (B1 c b),.str (B2 c b)]])).set (5 + 2 * k) (.frz [.str (B0 c b),.str (B1 c b),.str (B2 c b)]) = obB le la hd (tail ++ [AO.inst 150 wsNs (leadO c b k)] ++ [.frz [.str (B0 c b),.str (B1 c b),.str (B2 c b)]]):=by
  rw [obB_set (by lia),set_mid (by simp; lia)]
 have hj2:Junk (tail ++ [AO.inst 150 wsNs (leadO c b k)] ++ [.frz [.str (B0 c b),.str (B1 c b),.str (B2 c b)]]):=fun o ho i => by
  rcases List.mem_append.mp ho with q | q
  ·rcases List.mem_append.mp q with q | q
   ·exact hj o q i
   ·rw [List.mem_singleton.mp q]; rfl
  ·rw [List.mem_singleton.mp q]; rfl
 have hat2:(obB le la hd (tail ++ [AO.inst 150 wsNs (leadO c b k)] ++ [.frz [.str (B0 c b),.str (B1 c b),.str (B2 c b)]]))[4 + 2 * k]? = some (.inst 150 wsNs (leadO c b k)):=by
  rw [obB_get (by lia),List.append_assoc]; exact at_mid (by lia)
 obtain ⟨o0,o1,o2⟩:=bb_ok c hc b hb
 obtain ⟨n0,n1,n2⟩:=bb_ne c hc b hb
 refine xss1 ?_;refine sIf1 ?_;refine iCmp1 rfl rfl ?_;refine xFrz ?_;refine xComp (tg:=.one 1) (V:=[none,none,none,some (.loc (4 + 2 * k))]) (by kernel_rfl) (by kernel_rfl) rfl (by kernel_rfl) ?_;refine eIt_o (by kernel_rfl) ?_;refine fN l347_bent rfl (tr_list hbe) ?_
 rw [hbs]
 refine ⟨_,.inl rfl,three_sz,?_⟩
 refine xC (by decide) rfl (bent1 (f:=f + 46) o0 n0 hat2 (obB_ref hj2) ⟨rfl,?_⟩)
 refine xC (by decide) rfl (bent1 (f:=f + 46) o1 n1 hat2 (obB_ref hj2) ⟨rfl,?_⟩)
 refine xC (by decide) rfl (bent1 (f:=f + 46) o2 n2 hat2 (obB_ref hj2) ⟨rfl,?_⟩)
 refine xC0 three_sz ⟨_,_,rfl,?_⟩
 refine xFrz ?_;refine xList rfl rfl ?_;refine xEvs1 ?_;refine xFrz ?_;refine xBool ?_
 refine ⟨_,_,rfl,?_⟩
 refine xEvs1 ?_;refine xFrz ?_;refine xBool ?_
 refine ⟨_,_,rfl,?_⟩
 refine xEvs1 ?_;refine xFrz ?_;refine xBool ?_
 refine ⟨_,_,rfl,?_⟩
 refine xEvs0 ?_
 refine ⟨⟨rfl,three_sz⟩,_,_,rfl,false,cNeSame (a:=.lst [.bool true,.bool true,.bool true]) rfl rfl,Br.f ?_⟩
 refine xss0 ?_;refine seqL (by rw [obB_len,obB_len]; simp) ?_;refine xss1 ?_;refine sExpr rfl ?_;refine xAppend rfl rfl rfl rfl ?_;refine xN l347_leads rfl ?_;refine fN l347_lead rfl (tr_inst hat2 lead_tree) ?_
 have hst:(obB le la hd (tail ++ [AO.inst 150 wsNs (leadO c b k)] ++ [.frz [.str (B0 c b),.str (B1 c b),.str (B2 c b)]])).set (4 + 2 * k) (.ifrz 150 wsNs (leadO c b k)) = obB le la hd (tail ++ [.ifrz 150 wsNs (leadO c b k),.frz [.str (B0 c b),.str (B1 c b),.str (B2 c b)]]):=by
  rw [obB_set (by lia),List.append_assoc]
  congr 1
  exact set_mid (by lia)
 refine Eq.subst (motive:=kApp _ _ _ _ _) hst.symm ?_
 refine ⟨0,le,le,rfl,rfl,rfl,rfl,by lia,by rw [obB_len,obB_len]; simp,seqL (by rw [List.length_set,obB_len,obB_len]; simp) ?_⟩
 exact hK
end
section
noncomputable def bitsL (low s:Nat):List Int:=(setL s).map fun f => 2 ^ (low + f)
noncomputable def PfOk (ob:OB) (n low:Nat):Prop:=∀ s,s < 5 → callI (ev GP0 (n + 40)) fi46 [.int (bitsL low s).sum] ob = some (.str (NM low s),ob)
section
variable (ob:OB) (n:Nat)
theorem pf0:PfOk ob n 0:=bd5 (by kernel_rfl) (by kernel_rfl) (by kernel_rfl) (by kernel_rfl) (by kernel_rfl)
theorem pf1:PfOk ob n 1:=bd5 (by kernel_rfl) (by kernel_rfl) (by kernel_rfl) (by kernel_rfl) (by kernel_rfl)
theorem pf2:PfOk ob n 2:=bd5 (by kernel_rfl) (by kernel_rfl) (by kernel_rfl) (by kernel_rfl) (by kernel_rfl)
theorem pf3:PfOk ob n 3:=bd5 (by kernel_rfl) (by kernel_rfl) (by kernel_rfl) (by kernel_rfl) (by kernel_rfl)
theorem pf4:PfOk ob n 4:=bd5 (by kernel_rfl) (by kernel_rfl) (by kernel_rfl) (by kernel_rfl) (by kernel_rfl)
theorem pf5:PfOk ob n 5:=bd5 (by kernel_rfl) (by kernel_rfl) (by kernel_rfl) (by kernel_rfl) (by kernel_rfl)
theorem pf6:PfOk ob n 6:=bd5 (by kernel_rfl) (by kernel_rfl) (by kernel_rfl) (by kernel_rfl) (by kernel_rfl)
theorem pf7:PfOk ob n 7:=bd5 (by kernel_rfl) (by kernel_rfl) (by kernel_rfl) (by kernel_rfl) (by kernel_rfl)
theorem pf8:PfOk ob n 8:=bd5 (by kernel_rfl) (by kernel_rfl) (by kernel_rfl) (by kernel_rfl) (by kernel_rfl)
theorem pf9:PfOk ob n 9:=bd5 (by kernel_rfl) (by kernel_rfl) (by kernel_rfl) (by kernel_rfl) (by kernel_rfl)
theorem pf10:PfOk ob n 10:=bd5 (by kernel_rfl) (by kernel_rfl) (by kernel_rfl) (by kernel_rfl) (by kernel_rfl)
theorem pf11:PfOk ob n 11:=bd5 (by kernel_rfl) (by kernel_rfl) (by kernel_rfl) (by kernel_rfl) (by kernel_rfl)
theorem pf12:PfOk ob n 12:=bd5 (by kernel_rfl) (by kernel_rfl) (by kernel_rfl) (by kernel_rfl) (by kernel_rfl)
theorem pf13:PfOk ob n 13:=bd5 (by kernel_rfl) (by kernel_rfl) (by kernel_rfl) (by kernel_rfl) (by kernel_rfl)
theorem pf14:PfOk ob n 14:=bd5 (by kernel_rfl) (by kernel_rfl) (by kernel_rfl) (by kernel_rfl) (by kernel_rfl)
theorem pf15:PfOk ob n 15:=bd5 (by kernel_rfl) (by kernel_rfl) (by kernel_rfl) (by kernel_rfl) (by kernel_rfl)
theorem pf16:PfOk ob n 16:=bd5 (by kernel_rfl) (by kernel_rfl) (by kernel_rfl) (by kernel_rfl) (by kernel_rfl)
theorem pf17:PfOk ob n 17:=bd5 (by kernel_rfl) (by kernel_rfl) (by kernel_rfl) (by kernel_rfl) (by kernel_rfl)
theorem pf18:PfOk ob n 18:=bd5 (by kernel_rfl) (by kernel_rfl) (by kernel_rfl) (by kernel_rfl) (by kernel_rfl)
theorem pf19:PfOk ob n 19:=bd5 (by kernel_rfl) (by kernel_rfl) (by kernel_rfl) (by kernel_rfl) (by kernel_rfl)
theorem pf20:PfOk ob n 20:=bd5 (by kernel_rfl) (by kernel_rfl) (by kernel_rfl) (by kernel_rfl) (by kernel_rfl)
theorem pf21:PfOk ob n 21:=bd5 (by kernel_rfl) (by kernel_rfl) (by kernel_rfl) (by kernel_rfl) (by kernel_rfl)
theorem pf22:PfOk ob n 22:=bd5 (by kernel_rfl) (by kernel_rfl) (by kernel_rfl) (by kernel_rfl) (by kernel_rfl)
theorem pf23:PfOk ob n 23:=bd5 (by kernel_rfl) (by kernel_rfl) (by kernel_rfl) (by kernel_rfl) (by kernel_rfl)
theorem pf24:PfOk ob n 24:=bd5 (by kernel_rfl) (by kernel_rfl) (by kernel_rfl) (by kernel_rfl) (by kernel_rfl)
theorem pf_ok:∀ low s:Nat,low < 25 → s < 5 → callI (ev GP0 (n + 40)) fi46 [.int (bitsL low s).sum] ob = some (.str (NM low s),ob) :=
 fun low s hl hs => bdS (P:=PfOk ob n) (bdA8 (bdA8 (bd8 (pf0 ob n) (pf1 ob n) (pf2 ob n) (pf3 ob n) (pf4 ob n) (pf5 ob n) (pf6 ob n) (pf7 ob n)) (pf8 ob n) (pf9 ob n) (pf10 ob n) (pf11 ob n) (pf12 ob n) (pf13 ob n) (pf14 ob n) (pf15 ob n)) (pf16 ob n) (pf17 ob n) (pf18 ob n) (pf19 ob n) (pf20 ob n) (pf21 ob n) (pf22 ob n) (pf23 ob n)) (pf24 ob n) low hl s hs
end
theorem join_sz:∀ low < 25,∀ s < 5,JoinOk ", " ((setL s).map fun f => Wp (low + f)) = true:=by decide +kernel
end
theorem hy_ok (h:Nat) (hh:h < 4):bopF .Mult (.str "-") (.int h) = some (.str (HY h)):=by
 match h,hh with
 | 0,_ => kernel_rfl
 | 1,_ => kernel_rfl
 | 2,_ => kernel_rfl
 | 3,_ => kernel_rfl
theorem hy_l:∀ h < 4,(HY h).length ≤ 3:=by decide +kernel
theorem lb_l:∀ j < 3,(LB j).length ≤ 60:=by decide +kernel
theorem lab_get (ob:OB) (j:Nat) (hj:j < 3):subsF ob LABELS j = some (.str (LB j)):=by
 match j,hj with
 | 0,_ => kernel_rfl
 | 1,_ => kernel_rfl
 | 2,_ => kernel_rfl
noncomputable def flagsAV (fs:List Nat):List AV:=fs.map fun (f:Nat) => .int (f:Int)
theorem compW {n:Nat} {sc:Sc} {elt:Expr} {A:Option AV} {W:Option AV} {KL:List AV → OB → Prop} {ob:OB} {low:Nat}
  (he:∀ (f:Nat) (K:AV → OB → Prop),f < 8 → K (.str (Wp (low + f))) ob → runE (frz ((ev GP0 n).e sc elt)) [A,some (.int f),W] ob K) :
  ∀ (fs:List Nat) (acc:List AV) (x:Option AV),(∀ f ∈ fs,f < 8) → acc.length + fs.length ≤ 1000 → KL (acc ++ fs.map fun f => .str (Wp (low + f))) ob → runL (compF (.one 1) (fun _ ob => some (true,ob)) (frz ((ev GP0 n).e sc elt)) (flagsAV fs) acc) [A,x,W] ob KL:=by
 intro fs
 have hs:sizeLine = 2 ^ 24:=rfl
 induction fs with
 | nil => intro acc x _ hl k; exact xC0 (by simp at hl; lia) (by simpa using k)
 | cons f fs ih =>
  intro acc x hf hl k
  rw [List.length_cons] at hl
  refine xC (by lia) rfl (he f _ (hf f (List.mem_cons_self ..)) ⟨rfl,ih _ _ (fun y hy => hf y (List.mem_cons_of_mem _ hy)) (by simp; lia) ?_⟩)
  rw [List.append_assoc]; exact k
theorem compI {n:Nat} {sc:Sc} {elt:Expr} {A:Option AV} {W:Option AV} {KL:List AV → OB → Prop} {ob:OB} {low:Nat}
  (he:∀ (f:Nat) (K:AV → OB → Prop),f < 8 → K (.int (2 ^ (low + f))) ob → runE (frz ((ev GP0 n).e sc elt)) [A,some (.int f),W] ob K) :
  ∀ (fs:List Nat) (acc:List AV) (x:Option AV),(∀ f ∈ fs,f < 8) → acc.length + fs.length ≤ 1000 → KL (acc ++ fs.map fun f => .int (2 ^ (low + f))) ob → runL (compF (.one 1) (fun _ ob => some (true,ob)) (frz ((ev GP0 n).e sc elt)) (flagsAV fs) acc) [A,x,W] ob KL:=by
 intro fs
 have hs:sizeLine = 2 ^ 24:=rfl
 induction fs with
 | nil => intro acc x _ hl k; exact xC0 (by simp at hl; lia) (by simpa using k)
 | cons f fs ih =>
  intro acc x hf hl k
  rw [List.length_cons] at hl
  refine xC (by lia) rfl (he f _ (hf f (List.mem_cons_self ..)) ⟨rfl,ih _ _ (fun y hy => hf y (List.mem_cons_of_mem _ hy)) (by simp; lia) ?_⟩)
  rw [List.append_assoc]; exact k
theorem strsOf_map:∀ l:List Str,strsOf (l.map .str) = some l
 | [] => rfl
 | x :: l => mapI (strsOf_map l) rfl
theorem joinOk {x:Str} {l:List Str} {ob:OB} (h:JoinOk x l = true):mfn GP0 "str.join" [.str x,.lst (l.map .str)] ob = some (.str (Txt.join x l),ob):=by
 show (((strsOf (l.map .str)).bind fun l => if JoinOk x l = true then some (AV.str (Txt.join x l)) else none).map fun z => (z,ob)) = _
 rw [strsOf_map,Option.bind_some,if_pos h]; rfl
theorem word_get {low f:Nat} (hf:f < 8):getIx (wordAV low) f = some (.str (Wp (low + f))):=by
 rw [getIx_nat (by lia)]
 unfold wordAV
 rw [List.getElem?_map,List.getElem?_range hf]; rfl
noncomputable def HD (low:Nat) (its:List Item):List AV:=(hdrs low its).map pairAV
theorem HD_succ {low its it}:HD low its ++ [pairAV (hdr low it)] = HD low (its ++ [it]):=by unfold HD hdrs; simp
theorem HD_len {low its}:(HD low its).length = its.length + 1:=by unfold HD hdrs; simp
noncomputable def bodyF:List Stmt:=forBody (stB 8)
theorem setL_len:∀ s < 5,(setL s).length = 4:=by decide
theorem turnF {f low k s h:Nat} {its:List Item} {le:List AV} {tail:OB} {KS:AF → VS → OB → Prop} {v0 v1 behind ws row typed lead counts bent text:Option AV} (hl:low < 25) (hk:k < 3) (hs:s < 5) (hh:h < 4) (hn:its.length ≤ 500) (hj:Junk tail)
  (hK:∀ text:Option AV,KS .next (VL v0 v1 (some (.int low)) (some (.lst (wordAV low))) behind (some (.int k)) ws (some LABELS) (some (.loc 0)) (some (.loc 1)) (some (.loc 3)) row typed lead counts bent (some (setAV s)) (some (.int h)) text u u u u u u u u u u u u) (obB le (HD low (its ++ [(s,k,h)])) (HD low (its ++ [(s,k,h)])) tail)) :
  runS (ss ((ev GP0 (f + 98)).s (fsc fi347)) bodyF) (VL v0 v1 (some (.int low)) (some (.lst (wordAV low))) behind (some (.int k)) ws (some LABELS) (some (.loc 0)) (some (.loc 1)) (some (.loc 3)) row typed lead counts bent (some (setAV s)) (some (.int h)) text u u u u u u u u u u u u) (obB le (HD low its) (HD low its) tail) KS:=by
 have hs24:sizeLine = 2 ^ 24:=rfl
 have l1:=lb_l k hk
 have l2:=hy_l h hh
 have l3:("+" : Str).length = 1:=by decide +kernel
 have hset:=setL_lt s hs
 have hsl:=setL_len s hs
 have hit:itsOk [(s,k,h)]:=fun it q => by rw [List.mem_singleton.mp q]; exact ⟨hs,hk,hh⟩
 refine xss1 ?_;refine sAssignB s347_text ?_;refine xFrz ?_;refine xBin ?_;refine xFrz ?_;refine xSubN ?_;refine xN l347_labels rfl ?_;refine xN l347_k rfl ?_
 refine ⟨_,_,rfl,lab_get _ k hk,_,_,rfl,?_⟩
 refine xFrz ?_;refine xStr ?_
 refine ⟨_,_,rfl,?_⟩
 refine ⟨_,addS (by lia),_,_,rfl,?_⟩
 refine xFrz ?_;refine xBin ?_;refine xFrz ?_;refine xStr ?_
 refine ⟨_,_,rfl,?_⟩
 refine fN l347_passed rfl rfl ?_
 refine ⟨_,hy_ok h hh,_,_,rfl,rfl,_,addS (by rw [len_app]; lia),seqN ?_⟩
 have hHD:(HD low its).length ≤ 600:=by rw [HD_len]; lia
 refine xss1 ?_;refine sExpr rfl ?_;refine xAppend rfl rfl rfl rfl ?_;refine xN l347_laid rfl ?_;refine xFrz ?_;refine xTup rfl ?_;refine xEvs1 ?_;refine xFrz ?_;refine xMethB rfl rfl (by decide +kernel) ?_;refine xFrz ?_;refine xStr ?_
 refine ⟨_,_,rfl,?_⟩
 refine ⟨"str","str.join",rfl,by decide +kernel,?_⟩
 refine xEvs1 ?_;refine xFrz ?_;refine xComp (tg:=.one 1) (V:=[none,none,some (.lst (wordAV low))]) (by kernel_rfl) (by kernel_rfl) rfl (by kernel_rfl) ?_;refine eIt_o (by kernel_rfl) ?_;refine fN l347_flags rfl rfl ?_
 refine ⟨_,.inl rfl,by rw [List.length_map]; lia,?_⟩
 refine compW (low:=low) (fun f' K hf' hK' => ?_) (setL s) [] none hset (by simp; lia) ?_
 ·refine xFrz ?_
  refine xSubN ?_;refine xN (i:=2) (by kernel_rfl) rfl ?_;refine xN (i:=1) (by kernel_rfl) rfl ?_
  exact ⟨_,_,rfl,subsLst.trans (word_get hf'),_,_,rfl,hK'⟩
 rw [List.nil_append,show ((setL s).map fun f => AV.str (Wp (low + f))) = ((setL s).map fun f => Wp (low + f)).map .str from by rw [List.map_map]; rfl]
 refine ⟨_,_,rfl,?_⟩
 refine xEvs0 ?_
 refine ⟨_,joinOk (join_sz low hl s hs),rfl,_,_,rfl,?_⟩
 refine xEvs1 ?_;refine fN l347_text rfl rfl ?_;refine xEvs0 ?_
 refine ⟨⟨rfl,two_sz⟩,_,_,rfl,?_⟩
 refine ⟨1,HD low its,HD low its,rfl,rfl,rfl,rfl,by lia,rfl,seqL (by rw [List.length_set]) ?_⟩
 show runS _ _ (obB le (HD low its ++ [pairAV (hdr low (s,k,h))]) (HD low its) tail) _
 rw [HD_succ]
 have hw:=w295 (F:=f + 95) (k:=3) (j:=2) (nm:=NM low s) (tx:=TX k h) (L:=HD low its) (ob:=obB le (HD low (its ++ [(s,k,h)])) (HD low its) tail) ⟨rfl,rfl⟩ (by lia) (txtOk_of (txt_nm hl hs)) (txtOk_of (txt_tx hk hh)) (by lia)
 have hset2:(obB le (HD low (its ++ [(s,k,h)])) (HD low its) tail).set 2 (.list (HD low its ++ [AV.tup [.str (NM low s),.str (TX k h)]])) = obB le (HD low (its ++ [(s,k,h)])) (HD low (its ++ [(s,k,h)])) tail:=by
  show obB le (HD low (its ++ [(s,k,h)])) (HD low its ++ [pairAV (hdr low (s,k,h))]) tail = _
  rw [HD_succ]
 rw [hset2] at hw
 have hpf:=pf_ok (obB le (HD low (its ++ [(s,k,h)])) (HD low its) tail) (f + 54) low s hl hs
 refine xss1 ?_;refine sIf1 ?_;refine iNone rfl ?_;refine xMethU rfl (by rfl) ?_;refine xN l347_mixture rfl ?_
 refine ⟨298,["_headers"],[.loc 2],295,fi295,rfl,by decide +kernel,by rfl,by rfl,by rfl,?_⟩
 refine xEvs1 ?_;refine xFrzO ?_;refine xCallI g347_pretty_flags rfl rfl rfl ?_;refine xEvs1 ?_;refine xFrzO ?_;refine xCallB g347_sum rfl rfl ?_;refine xEvs1 ?_;refine xFrzO ?_;refine xComp (tg:=.one 1) (V:=[none,none,some (.int low)]) (by kernel_rfl) (by kernel_rfl) rfl (by kernel_rfl) ?_;refine eIt_o (by kernel_rfl) ?_;refine fN l347_flags rfl rfl ?_
 refine ⟨_,.inl rfl,by rw [List.length_map]; lia,?_⟩
 refine compI (low:=low) (fun f' K hf' hK' => ?_) (setL s) [] none hset (by simp; lia) ?_
 ·refine fB ?_
  refine fI ?_;refine fB ?_;refine fN (i:=2) (by kernel_rfl) rfl rfl ?_;refine fN (i:=1) (by kernel_rfl) rfl rfl ?_
  refine ⟨_,bAdd,?_⟩
  refine ⟨_,bShl (k:=low + f') (by lia) (by rw [bts1]; lia),?_⟩
  rw [Int.one_mul]; exact hK'
 rw [List.nil_append,show ((setL s).map fun f => AV.int (2 ^ (low + f))) = iavs (bitsL low s) from by unfold iavs bitsL; rw [List.map_map]; rfl]
 refine ⟨_,_,rfl,?_⟩
 refine xEvs0 ?_
 refine ⟨rfl,_,sumOk,_,_,rfl,?_⟩
 refine xEvs0 ?_
 refine ⟨rfl,rfl,_,hpf,_,_,rfl,?_⟩
 refine xEvs1 ?_;refine fNO l347_text rfl rfl ?_;refine xEvs0 ?_;refine xEvk0 ?_
 refine ⟨_,_,obB le (HD low (its ++ [(s,k,h)])) (HD low (its ++ [(s,k,h)])) tail,hw,gc_top ?_ rfl (obB_ref hj _ (Nat.le_refl _)) rfl,_,_,false,rfl,rfl,rfl,Br.f ?_⟩
 ·rw [List.length_append,obB_len,obB_len]; simp
 refine xss0 ?_
 refine seqL (by rw [obB_len,obB_len]) (xss0 ?_)
 exact hK _
noncomputable def tabI (c k:Nat):List Item:=(tabOf c).map fun p => (p.1,k,p.2)
theorem tab_ok:∀ c < 8,∀ p ∈ tabOf c,p.1 < 5 ∧ p.2 < 4:=by decide
theorem tab_len:∀ c < 8,(tabOf c).length ≤ 10:=by decide
theorem loopF {f low k:Nat} {le:List AV} {tail:OB} {KS:AF → VS → OB → Prop} {v0 v1 behind ws row typed lead counts bent:Option AV} (hl:low < 25) (hk:k < 3) (hj:Junk tail):∀ (ps:List (Nat × Nat)) (its:List Item) (flags passed text:Option AV),(∀ p ∈ ps,p.1 < 5 ∧ p.2 < 4) → its.length + ps.length ≤ 500 →
  (∀ flags passed text:Option AV,KS .next (VL v0 v1 (some (.int low)) (some (.lst (wordAV low))) behind (some (.int k)) ws (some LABELS) (some (.loc 0)) (some (.loc 1)) (some (.loc 3)) row typed lead counts bent flags passed text u u u u u u u u u u u u) (obB le (HD low (its ++ ps.map fun p => (p.1,k,p.2))) (HD low (its ++ ps.map fun p => (p.1,k,p.2))) tail)) →
  runS (forF (.two 16 17) (ss ((ev GP0 (f + 98)).s (fsc fi347)) bodyF) (ss ((ev GP0 (f + 98)).s (fsc fi347)) []) (ps.map fun p => .tup [setAV p.1,.int (p.2:Int)])) (VL v0 v1 (some (.int low)) (some (.lst (wordAV low))) behind (some (.int k)) ws (some LABELS) (some (.loc 0)) (some (.loc 1)) (some (.loc 3)) row typed lead counts bent flags passed text u u u u u u u u u u u u) (obB le (HD low its) (HD low its) tail) KS:=by
 intro ps
 induction ps with
 | nil =>
  intro its flags passed text _ _ hK
  have:=hK flags passed text
  rw [List.map_nil,List.append_nil] at this
  exact xFor0 (xss0 this)
 | cons p ps ih =>
  intro its flags passed text hp hn hK
  rw [List.length_cons] at hn
  obtain ⟨p1,p2⟩:=hp p (List.mem_cons_self ..)
  rw [List.map_cons]
  refine xFor1 rfl ?_
  refine turnF (f:=f) hl hk p1 p2 (by lia) hj fun text => ⟨rfl,?_⟩
  refine ih (its ++ [(p.1,k,p.2)]) _ _ _ (fun y hy => hp y (List.mem_cons_of_mem _ hy)) (by simp; lia) fun flags passed text => ?_
  have:=hK flags passed text
  rw [List.map_cons] at this
  rw [List.append_assoc]
  exact this
theorem turnB {f c b k low:Nat} {cs:List Int} {its:List Item} {vn ws row typed lead counts bent flags passed text:Option AV} {le:List AV} {tail:OB} {KS:AF → VS → OB → Prop} (hl:low < 25) (hc:c < 8) (hb:b < 4) (hk:k < 3) (ht:tail.length = 2 * k) (hj:Junk tail) (h3:cs.length = 3) (hcode:cs.getD k 0 % (8 - (k:Int)) = (c:Int)) (hle:le.length ≤ 100) (hn:its.length ≤ 400)
  (hK:∀ row typed lead counts bent flags passed text:Option AV,KS .next (VL vn (some (.lst (iavs cs))) (some (.int low)) (some (.lst (wordAV low))) (some (.str (BH b))) (some (.int k)) ws (some LABELS) (some (.loc 0)) (some (.loc 1)) (some (.loc 3)) row typed lead counts bent flags passed text u u u u u u u u u u u u)
   (obB (le ++ [.inst 150 wsNs (leadO c b k)]) (HD low (its ++ tabI c k)) (HD low (its ++ tabI c k)) (tail ++ [.ifrz 150 wsNs (leadO c b k),.frz [.str (B0 c b),.str (B1 c b),.str (B2 c b)]]))) :
  runS (ss ((ev GP0 (f + 99)).s (fsc fi347)) bodyB) (VL vn (some (.lst (iavs cs))) (some (.int low)) (some (.lst (wordAV low))) (some (.str (BH b))) (some (.int k)) ws (some LABELS) (some (.loc 0)) (some (.loc 1)) (some (.loc 3)) row typed lead counts bent flags passed text u u u u u u u u u u u u) (obB le (HD low its) (HD low its) tail) KS:=by
 have hs:sizeLine = 2 ^ 24:=rfl
 have htl:=tab_len c hc
 refine turnB1 (w0:=.none) hc hb hk ht hj h3 hcode hle ?_
 have hj2:Junk (tail ++ [.ifrz 150 wsNs (leadO c b k),.frz [.str (B0 c b),.str (B1 c b),.str (B2 c b)]]):=fun o ho i => by
  rcases List.mem_append.mp ho with q | q
  ·exact hj o q i
  ·rcases List.mem_cons.mp q with rfl | q
   ·rfl
   ·rw [List.mem_singleton.mp q]; rfl
 have htab:=table_ok (obB (le ++ [.inst 150 wsNs (leadO c b k)]) (HD low its) (HD low its) (tail ++ [.ifrz 150 wsNs (leadO c b k),.frz [.str (B0 c b),.str (B1 c b),.str (B2 c b)]])) (f + 57) c hc
 refine xss1 ?_;refine sForO (tg:=.two 16 17) (by kernel_rfl) rfl rfl ?_;refine eIt_o (by kernel_rfl) ?_;refine xFrz ?_;refine xCallI g347__law_table rfl rfl rfl ?_;refine xEvs1 ?_;refine fNO l347_row rfl rfl ?_;refine xEvs0 ?_
 refine ⟨rfl,rfl,_,htab,_,_,rfl,?_⟩
 refine ⟨_,.inl rfl,by unfold tabAV; rw [List.length_map]; lia,?_⟩
 refine loopF (f:=f) hl hk hj2 (tabOf c) its _ _ _ (tab_ok c hc) (by lia) fun flags passed text => ?_
 refine seqL (by rw [obB_len,obB_len]) (xss0 ?_)
 exact hK _ _ _ _ _ _ _ _
noncomputable def cdOf (cs:List Int) (k:Nat):Nat:=(cs.getD k 0 % (8 - (k:Int))).toNat
theorem cdOf_lt {cs k} (hk:k < 3):cdOf cs k < 8:=by
 unfold cdOf
 have h1:cs.getD k 0 % (8 - (k:Int)) < 8 - (k:Int):=Int.emod_lt_of_pos _ (by lia)
 lia
theorem cdOf_eq {cs:List Int} {k:Nat} (hk:k < 3):cs.getD k 0 % (8 - (k:Int)) = (cdOf cs k:Int):=by
 unfold cdOf
 have h1:0 ≤ cs.getD k 0 % (8 - (k:Int)):=Int.emod_nonneg _ (by lia)
 lia
theorem gc_B {fl:AF} {vs:VS} {le la hd:List AV}:∀ (n:Nat) (tail:OB),n ≤ tail.length → Junk tail → ∃ tail',Junk tail' ∧ gcN fl vs n (obB le la hd tail) = obB le la hd tail'
 | 0,tail,_,hj => ⟨tail,hj,rfl⟩
 | n + 1,tail,hn,hj => by
  rw [gcN_succ]
  split
  ·exact ⟨tail,hj,rfl⟩
  ·have hne:tail ≠ []:=by intro q; rw [q] at hn; simp at hn
   have e:(obB le la hd tail).dropLast = obB le la hd tail.dropLast:=by
    unfold obB
    exact List.dropLast_append_of_ne_nil hne
   rw [e]
   exact gc_B n tail.dropLast (by rw [List.length_dropLast]; lia) fun o ho => hj o (List.dropLast_subset _ ho)
theorem seqGB {f:Stmt → FS} {rest:List Stmt} {m:OB} {vs:VS} {le la hd:List AV} {tail:OB} {KS:AF → VS → OB → Prop} (hm:4 ≤ m.length) (hj:Junk tail) (h:∀ tail',Junk tail' → runS (ss f rest) vs (obB le la hd tail') KS):seqK f rest m KS .next vs (obB le la hd tail):=by
 obtain ⟨t,ht,e⟩:=gc_B (fl:=.next) (vs:=vs) (le:=le) (la:=la) (hd:=hd) ((obB le la hd tail).length - m.length) tail (by rw [obB_len]; omega) hj
 exact seqNg e (h t ht)
noncomputable def itsB (cs:List Int):List Item:=tabI (cdOf cs 0) 0 ++ tabI (cdOf cs 1) 1 ++ tabI (cdOf cs 2) 2
noncomputable def lesB (cs:List Int) (b:Nat):List AV:=[.inst 150 wsNs (leadO (cdOf cs 0) b 0),.inst 150 wsNs (leadO (cdOf cs 1) b 1),.inst 150 wsNs (leadO (cdOf cs 2) b 2)]
theorem segB {f b low:Nat} {cs:List Int} {vn ws:Option AV} {KS:AF → VS → OB → Prop} (hl:low < 25) (hb:b < 4) (h3:cs.length = 3)
  (hK:∀ (k row typed lead counts bent flags passed text:Option AV) (tail:OB),Junk tail → runS (ss ((ev GP0 (f + 100)).s (fsc fi347)) (fi347.body.drop 12)) (VL vn (some (.lst (iavs cs))) (some (.int low)) (some (.lst (wordAV low))) (some (.str (BH b))) k ws (some LABELS) (some (.loc 0)) (some (.loc 1)) (some (.loc 3)) row typed lead counts bent flags passed text u u u u u u u u u u u u) (obB (lesB cs b) (HD low (itsB cs)) (HD low (itsB cs)) tail) KS) :
  runS (ss ((ev GP0 (f + 100)).s (fsc fi347)) (fi347.body.drop 11)) (VL vn (some (.lst (iavs cs))) (some (.int low)) (some (.lst (wordAV low))) (some (.str (BH b))) u ws (some LABELS) (some (.loc 0)) (some (.loc 1)) (some (.loc 3)) u u u u u u u u u u u u u u u u u u u u) (obA low) KS:=by
 have hc:∀ k,k < 3 → cdOf cs k < 8:=fun k hk => cdOf_lt hk
 have htl:∀ k,k < 3 → (tabI (cdOf cs k) k).length ≤ 10:=fun k hk => by unfold tabI; rw [List.length_map]; exact tab_len _ (hc k hk)
 have t0:=htl 0 (by lia)
 have t1:=htl 1 (by lia)
 refine xss1 ?_;refine sForO (tg:=.one 5) (by kernel_rfl) rfl rfl ?_;refine eIt_r1c (m:=3) (itRng1 rfl g347_range) (by lia) ?_;refine xInt ?_
 refine ⟨rfl,?_⟩
 rw [rngL_succ,rngL_succ,rngL_succ]
 have e0:obA low = obB [] (HD low []) (HD low []) []:=rfl
 rw [e0]
 have jn:∀ (t:OB) (c k:Nat),Junk t → Junk (t ++ [.ifrz 150 wsNs (leadO c b k),.frz [.str (B0 c b),.str (B1 c b),.str (B2 c b)]]):=fun t c k hj o ho i => by
  rcases List.mem_append.mp ho with q | q
  ·exact hj o q i
  ·rcases List.mem_cons.mp q with rfl | q
   ·rfl
   ·rw [List.mem_singleton.mp q]; rfl
 have j0:Junk []:=fun _ h => nomatch h
 refine xFor1 rfl ?_
 refine turnB (f:=f) (k:=0) (c:=cdOf cs 0) hl (hc 0 (by lia)) hb (by lia) rfl j0 h3 (cdOf_eq (by lia)) (by simp) (by simp) fun row typed lead counts bent flags passed text => ⟨rfl,?_⟩
 refine xFor1 rfl ?_
 refine turnB (f:=f) (k:=1) (c:=cdOf cs 1) hl (hc 1 (by lia)) hb (by lia) rfl (jn _ _ _ j0) h3 (cdOf_eq (by lia)) (by simp) (by simp; lia) fun row typed lead counts bent flags passed text => ⟨rfl,?_⟩
 refine xFor1 rfl ?_
 refine turnB (f:=f) (k:=2) (c:=cdOf cs 2) hl (hc 2 (by lia)) hb (by lia) rfl (jn _ _ _ (jn _ _ _ j0)) h3 (cdOf_eq (by lia)) (by simp) (by simp; lia) fun row typed lead counts bent flags passed text => ⟨rfl,?_⟩
 refine xFor0 (xss0 ?_)
 refine seqGB (by rw [obB_len]; lia) (jn _ _ _ (jn _ _ _ (jn _ _ _ j0))) fun tail hj => ?_
 exact hK _ _ _ _ _ _ _ _ _ _ hj
section
section
variable {G:Gl} {n:Nat} {sc:Sc} {vs:VS} {ob:OB} {K:AV → OB → Prop} {KS:AF → VS → OB → Prop} {KL:List AV → OB → Prop} {KB:Bool → OB → Prop}
inductive kApG (ob ob1:OB) (K:KE) (a:AV) (y:AV) (ob2:OB):Prop
 | mk (j:_) (xs:_) (ys:_) (ob3:_) (h1:a = .loc j) (h2:ob1[j]? = some (.list xs)) (h3:ob2[j]? = some (.list ys)) (h4:y.tree = true) (h5:ys.length ≤ sizeLine) (h6:gcN (.ret .none) [] ((ob2.set j (.list (ys ++ [y]))).length - ob.length) (ob2.set j (.list (ys ++ [y]))) = ob3) (k:K .none ob3):kApG ob ob1 K a y ob2
noncomputable abbrev kApG0 (G:Gl) (n:Nat) (sc:Sc) (vs:VS) (e:Expr) (ob:OB) (K:KE):KE:=fun a ob1 => runE (frz ((ev G n).e sc e)) vs ob1 (kApG ob ob1 K a)
theorem xAppendG {o e:Expr} {apos pos:Pos} (hb:isBareCall o = false) (hs:noStar [e] = true) (hl:(apos.endLine == pos.line) = true) (hu:G.user "append" = false)
  (h:runE ((ev G n).e sc o) vs ob (kApG0 G n sc vs e ob K)) :
  runE ((ev G (n + 1)).e sc (.Call (.Attribute o "append" apos) [e] [] pos)) vs ob K:=by
 obtain ⟨a,ob1,e1,y,ob2,e2,j,xs,ys,ob3,rfl,e3,e4,e5,e6,e7,k⟩:=h
 have hc:methOk o [e] [] apos pos = true:=by unfold methOk; rw [hb,hl,hs]; rfl
 exact ⟨.none,ob3,gcE_g ((eMeth_b hc hu).trans (eMethB_y (T:="list") (id:="list.append") (by decide +kernel) e1 (bindI (bindI e3 rfl) rfl) (by decide +kernel) (bindI e2 rfl) (bApp e4 e5 e6))) e7,k⟩
noncomputable abbrev kOr (G:Gl) (n:Nat) (sc:Sc) (vs:VS) (y:Expr) (KB:KBo):KBo:=fun b ob1 => Br b (KB true ob1) (runB ((ev G n).i sc y) vs ob1 KB)
theorem iOr {x y:Expr} {p:Pos} (h:runB ((ev G n).i sc x) vs ob (kOr G n sc vs y KB)):runB ((ev G (n + 1)).i sc (.BoolOp .Or [x,y] p)) vs ob KB:=by
 obtain ⟨b,ob1,e1,⟨rfl,k⟩ | ⟨rfl,c,ob2,e2,k⟩⟩:=h
 ·exact ⟨true,ob1,bindI e1 rfl,k⟩
 ·exact ⟨c,ob2,bindI e1 e2,k⟩
inductive kNoL (op:CmpOp) (KB:KBo) (a:AV) (ob1:OB):Prop
 | mk (j:_) (h1:a = .loc j) (k:KB (op == .IsNot) ob1):kNoL op KB a ob1
theorem iNoneL {l y:Expr} {op:CmpOp} {p:Pos} (hq:((op == .Is || op == .IsNot) && isNoneConst y) = true) (h:runE ((ev G n).e sc l) vs ob (kNoL op KB)):runB ((ev G (n + 1)).i sc (.Compare l [op] [y] p)) vs ob KB:=by
 obtain ⟨a,ob1,e1,j,rfl,k⟩:=h
 exact ⟨_,ob1,ifI hq (bindI e1 rfl),k⟩
inductive kCS (G:Gl) (n:Nat) (fi:FI) (ob:OB) (K:KE) (avs:List AV) (ob1:OB):Prop
 | mk (h1:trees avs = false) (z:_) (ob2:_) (ob3:_) (h2:callS (ev G n) fi avs [] ob1 = some (z,ob2)) (h3:gcN (.ret z) [] (ob2.length - ob.length) ob2 = ob3) (k:K z ob3):kCS G n fi ob K avs ob1
theorem callV_s {a:Addr} {fi:FI} {r:Ev} {avs:List AV} (hi:G.init a = none) (hf:G.fn a = some fi) (ht:trees avs = false):callV G r (.ref a) avs ob = callS r fi avs [] ob:=by
 show callR G r a avs ob = _
 unfold callR
 rw [hi]
 exact bindI hf (if_neg (nT ht))
theorem xCallS {x:Str} {p pos:Pos} {args:List Expr} {a:Addr} {fi:FI} (hg:gName G sc x = some (.cst (.ref a))) (hi:G.init a = none) (hf:G.fn a = some fi) (hn:(noStar args && !args.isEmpty) = true)
  (h:runL (evs (fun e => frzO ((ev G n).e sc e)) args) vs ob (kCS G n fi ob K)):runE ((ev G (n + 1)).e sc (.Call (.Name x p) args [] pos)) vs ob K:=by
 obtain ⟨_,_,e1,e2,z,_,ob3,e3,e4,k⟩:=h
 exact ⟨z,ob3,gcE_g (eCall_c hg hn (by rw [evs_f (plain_f hi)]; exact e1) ((callV_s hi hf e2).trans e3)) e4,k⟩
theorem gc_keep {k:Nat} {n:Nat} {P:OB} {o:AO} (hk:k = P.length):gcN (.ret (.loc k)) [] n (P ++ [o]) = P ++ [o]:=by
 cases n with
 | zero => rfl
 | succ n =>
  rw [gcN_succ]
  have:(P ++ [o]).length - 1 = P.length:=by simp
  rw [this,hk]
  simp [refAF,refAV]
end
noncomputable def obC (le:List AV) (a b:AO) (tail:OB):OB:=[.list le,a,b,.inst 298 ["_headers"] [.loc 2]] ++ tail
theorem obC_len {le a b tail}:(obC le a b tail).length = 4 + tail.length:=by unfold obC; simp; lia
theorem obC_app {le a b tail t}:obC le a b tail ++ t = obC le a b (tail ++ t):=by unfold obC; simp
noncomputable def noR (o:AO):Prop:=∀ i,refAO i o = false
theorem obC_ref {le a b tail} (ha:noR a) (hb:noR b) (hj:Junk tail):NoRef (obC le a b tail):=fun i hi => by
 rw [obC_len] at hi
 unfold obC
 have h1:tail.any (refAO i) = false:=List.any_eq_false.mpr fun o ho => by rw [hj o ho i]; simp
 have h2:(2 == i) = false:=by simp; lia
 have h3:([.list le,a,b,.inst 298 ["_headers"] [.loc 2]]:OB).any (refAO i) = false:=by
  show (false || (refAO i a || (refAO i b || (((2 == i) || false) || false)))) = false
  rw [h2,ha i,hb i]; rfl
 rw [List.any_append,h1,h3]; rfl
theorem obC_set {le a b tail x i} (hi:4 ≤ i):(obC le a b tail).set i x = obC le a b (tail.set (i - 4) x):=by
 unfold obC
 rw [List.set_append_right _ _ (by simpa using hi)]
 simp
theorem obC_get {le a b tail i} (hi:4 ≤ i):(obC le a b tail)[i]? = tail[i - 4]?:=by
 unfold obC
 rw [List.getElem?_append_right (by simpa using hi)]
 simp
theorem gc_C {fl:AF} {vs:VS} {le:List AV} {a b:AO}:∀ (n:Nat) (tail:OB),n ≤ tail.length → Junk tail → ∃ tail',Junk tail' ∧ gcN fl vs n (obC le a b tail) = obC le a b tail'
 | 0,tail,_,hj => ⟨tail,hj,rfl⟩
 | n + 1,tail,hn,hj => by
  rw [gcN_succ]
  split
  ·exact ⟨tail,hj,rfl⟩
  ·have hne:tail ≠ []:=by intro q; rw [q] at hn; simp at hn
   have e:(obC le a b tail).dropLast = obC le a b tail.dropLast:=by
    unfold obC
    exact List.dropLast_append_of_ne_nil hne
   rw [e]
   exact gc_C n tail.dropLast (by rw [List.length_dropLast]; lia) fun o ho => hj o (List.dropLast_subset _ ho)
theorem seqGC {f:Stmt → FS} {rest:List Stmt} {m:OB} {vs:VS} {le:List AV} {a b:AO} {tail:OB} {KS:AF → VS → OB → Prop} (hm:4 ≤ m.length) (hj:Junk tail) (h:∀ tail',Junk tail' → runS (ss f rest) vs (obC le a b tail') KS):seqK f rest m KS .next vs (obC le a b tail):=by
 obtain ⟨t,ht,e⟩:=gc_C (fl:=.next) (vs:=vs) (le:=le) (a:=a) (b:=b) ((obC le a b tail).length - m.length) tail (by rw [obC_len]; lia) hj
 exact seqNg e (h t ht)
theorem junk1 {tail:OB} {o:AO} (hj:Junk tail) (ho:noR o):Junk (tail ++ [o]):=fun x hx i => by
 rcases List.mem_append.mp hx with q | q
 ·exact hj x q i
 ·rw [List.mem_singleton.mp q]; exact ho i
theorem HD_like {low:Nat} {its:List Item} (hl:low < 25) (hi:itsOk its):okT (.lst (HD low its)) = true ∧ dpt 10 (.lst (HD low its)) = true:=by
 have hp:=ps_ok hl hi
 constructor
 ·show okTs (HD low its) = true
  unfold HD
  generalize hdrs low its = ps at hp
  induction ps with
  | nil => rfl
  | cons p ps ih =>
   obtain ⟨a,b⟩:=hp p (List.mem_cons_self ..)
   have sa:=str_of_calm (txt_calm a).1
   have sb:=str_of_calm (txt_calm b).1
   rw [List.map_cons]
   show ((PyData.strOk p.1 && (PyData.strOk p.2 && true)) && okTs _) = true
   rw [sa,sb,ih fun y hy => hp y (List.mem_cons_of_mem _ hy)]; rfl
 ·show (HD low its).all (dpt 9) = true
  rw [List.all_eq_true]
  intro x hx
  obtain ⟨p,_,rfl⟩:=List.mem_map.mp hx
  rfl
theorem itsB_ok (cs:List Int):itsOk (itsB cs):=fun it h => by
 have t:∀ k,k < 3 → ∀ it ∈ tabI (cdOf cs k) k,it.1 < 5 ∧ it.2.1 < 3 ∧ it.2.2 < 4:=fun k hk it hit => by
  obtain ⟨p,hp,rfl⟩:=List.mem_map.mp hit
  have:=tab_ok _ (cdOf_lt (cs:=cs) hk) p hp
  exact ⟨this.1,hk,this.2⟩
 unfold itsB at h
 rcases List.mem_append.mp h with h | h
 ·rcases List.mem_append.mp h with h | h
  ·exact t 0 (by lia) it h
  ·exact t 1 (by lia) it h
 ·exact t 2 (by lia) it h
theorem itsB_len (cs:List Int):(itsB cs).length ≤ 30:=by
 have t:∀ k,k < 3 → (tabI (cdOf cs k) k).length ≤ 10:=fun k hk => by unfold tabI; rw [List.length_map]; exact tab_len _ (cdOf_lt hk)
 have a:=t 0 (by lia)
 have b:=t 1 (by lia)
 have c:=t 2 (by lia)
 unfold itsB
 rw [List.length_append,List.length_append]; lia
end
noncomputable def SETSAV:List AV:=(List.range 5).map setAV
theorem sets_ok (n:Nat) (ob:OB) (v0 v1 v2 v3 v4 v5 v6 v7 v8 v9 v10 v11 v12 v13 v14 v15 v16 v17 v18:Option AV):(ev GP0 (n + 60)).s (fsc fi347) (stLaw 14) (VL v0 v1 v2 v3 v4 v5 v6 v7 v8 v9 v10 v11 v12 v13 v14 v15 v16 v17 v18 u u u u u u u u u u u u) ob =
  some (.next,VL v0 v1 v2 v3 v4 v5 v6 v7 v8 v9 v10 v11 v12 v13 v14 v15 v16 v17 v18 (some (.loc ob.length)) u u u u u u u u u u u,ob ++ [.list SETSAV]):=by kernel_rfl
noncomputable def compOf1:Stmt → Expr
 | .Assign _ (.Call _ (_ :: _ :: e :: _) _ _) _ => e
 | _ => .Constant .none 0 default
noncomputable def eltN:Expr:=eltOf (compOf1 (stLaw 15))
noncomputable def scN:Sc:=compSc (fsc fi347) (scpOf (compOf1 (stLaw 15)))
theorem nameE {f low s:Nat} {x:Option AV} {ob:OB} {K:AV → OB → Prop} (hl:low < 25) (hs:s < 5) (h:K (.str (NM low s)) ob):runE (frz ((ev GP0 (f + 40)).e scN eltN)) [x,some (setAV s),some (.lst (wordAV low))] ob K:=by
 have hs24:sizeLine = 2 ^ 24:=rfl
 have hsl:=setL_len s hs
 refine xFrz ?_;refine xMethB rfl rfl (by decide +kernel) ?_;refine xFrz ?_;refine xStr ?_
 refine ⟨_,_,rfl,?_⟩
 refine ⟨"str","str.join",rfl,by decide +kernel,?_⟩
 refine xEvs1 ?_;refine xFrz ?_;refine xComp (tg:=.one 1) (V:=[none,none,some (.lst (wordAV low))]) (by kernel_rfl) (by kernel_rfl) rfl (by kernel_rfl) ?_;refine eIt_o (by kernel_rfl) ?_;refine fN (i:=1) (by kernel_rfl) rfl rfl ?_
 refine ⟨_,.inl rfl,by rw [List.length_map]; lia,?_⟩
 refine compW (low:=low) (fun f' K hf' hK' => ?_) (setL s) [] none (setL_lt s hs) (by simp; lia) ?_
 ·refine xFrz ?_
  refine xSubN ?_;refine xN (i:=2) (by kernel_rfl) rfl ?_;refine xN (i:=1) (by kernel_rfl) rfl ?_
  exact ⟨_,_,rfl,subsLst.trans (word_get hf'),_,_,rfl,hK'⟩
 rw [List.nil_append,show ((setL s).map fun f => AV.str (Wp (low + f))) = ((setL s).map fun f => Wp (low + f)).map .str from by rw [List.map_map]; rfl]
 refine ⟨_,_,rfl,?_⟩
 refine xEvs0 ?_
 exact ⟨_,joinOk (join_sz low hl s hs),rfl,_,_,rfl,h⟩
theorem segC {f low:Nat} {its:List Item} {ws:List Int} {le:List AV} {tail:OB} {KS:AF → VS → OB → Prop} {v0 v1 behind k row typed lead counts bent flags passed text:Option AV} (hl:low < 25) (hi:itsOk its) (hn:its.length ≤ 500) (h3:ws.length = 3) (hw:∀ w ∈ ws,bts w ≤ 2 ^ 22) (hj:Junk tail)
  (hK:∀ (tail:OB) (a b:Nat),Junk tail → 4 ≤ a → 4 ≤ b → tail[a - 4]? = some (.frz SETSAV) → tail[b - 4]? = some (.list (iavs (SUMS ws its 5))) →
   runS (ss ((ev GP0 (f + 100)).s (fsc fi347)) (fi347.body.drop 17)) (VL v0 v1 (some (.int low)) (some (.lst (wordAV low))) behind k (some (.lst (iavs ws))) (some LABELS) (some (.loc 0)) (some (.loc 1)) (some (.loc 3)) row typed lead counts bent flags passed text (some (.loc a)) (some (.loc b)) u u u u u u u u u u) (obC le (.frz (HD low its)) (.frz (HD low its)) tail) KS) :
  runS (ss ((ev GP0 (f + 100)).s (fsc fi347)) (fi347.body.drop 12)) (VL v0 v1 (some (.int low)) (some (.lst (wordAV low))) behind k (some (.lst (iavs ws))) (some LABELS) (some (.loc 0)) (some (.loc 1)) (some (.loc 3)) row typed lead counts bent flags passed text u u u u u u u u u u u u) (obC le (.list (HD low its)) (.list (HD low its)) tail) KS:=by
 have hs24:sizeLine = 2 ^ 24:=rfl
 have hHD:(HD low its).length ≤ 600:=by rw [HD_len]; lia
 have nl:noR (.list (HD low its)):=fun _ => rfl
 have nf:noR (.frz (HD low its)):=fun _ => rfl
 have hlike:=HD_like hl hi
 have hc:=txtOk_of (txt_wp (low:=low) (by lia))
 obtain ⟨t1,_,t2⟩:=txt_low hc
 have hcc:=cOk_of (txt_wp (low:=low) (by lia))
 have hup:=lowOk_of (q:=Txt.upper (Wp low)) (by rw [up_eq hcc.1]; exact cOk_up (txt_wp (by lia)))
 have wi:=w262 (F:=f + 97) (k:=3) (j:=2) (L:=HD low its) (ob:=obC le (.list (HD low its)) (.list (HD low its)) tail) rfl rfl (by lia) (by lia)
 refine xss1 ?_;refine sExpr rfl ?_;refine xAppendG rfl rfl rfl rfl ?_;refine xMethU rfl (by rfl) ?_;refine xN l347_mixture rfl ?_
 refine ⟨298,["_headers"],[.loc 2],262,fi262,rfl,by decide +kernel,by rfl,by rfl,by rfl,?_⟩
 refine xEvs0 ?_;refine xEvk0 ?_
 refine ⟨_,_,_,wi,gc_keep rfl,?_⟩
 refine xFrz ?_;refine xSubC ?_;refine xN l347_laid rfl ?_
 refine ⟨pairAV (Wp low,"alone"),by rfl,_,_,rfl,?_⟩
 refine ⟨_,_,_,obC le (.list (HD low its)) (.list (HD low its)) tail,rfl,at_mid rfl,at_mid rfl,rfl,by lia,?_,seqN ?_⟩
 ·rw [set_mid rfl]
  exact gc_top (by simp) rfl (obC_ref nl nl hj _ (Nat.le_refl _)) rfl
 have wi2:=w262 (F:=f + 96) (k:=3) (j:=2) (L:=HD low its) (ob:=obC le (.list (HD low its)) (.list (HD low its)) tail) rfl rfl (by lia) (by lia)
 refine xss1 ?_;refine sIf1 ?_;refine iOr ?_;refine iCmp1 rfl rfl ?_;refine xFrz ?_;refine xMethU rfl (by rfl) ?_;refine xN l347_mixture rfl ?_
 refine ⟨298,["_headers"],[.loc 2],262,fi262,rfl,by decide +kernel,by rfl,by rfl,by rfl,?_⟩
 refine xEvs0 ?_;refine xEvk0 ?_
 refine ⟨_,_,_,wi2,gc_keep rfl,_,_,tr_list (at_mid rfl),?_⟩
 rw [set_mid rfl,obC_app]
 refine fN l347_laid rfl (ob':=obC le (.frz (HD low its)) (.list (HD low its)) (tail ++ [.frz (HD low its)])) rfl ?_
 refine ⟨false,cNeSame hlike.1 hlike.2,Br.f ?_⟩
 have hj1:Junk (tail ++ [.frz (HD low its)]):=junk1 hj nf
 generalize tail ++ [AO.frz (HD low its)] = tail1 at hj1
 have hlen:(hdrs low its).length ≤ 1000:=by unfold hdrs; simp; lia
 have wg:=w237 (F:=f + 96) (k:=3) (j:=2) (q:=Txt.upper (Wp low)) (ps:=hdrs low its) (ob:=obC le (.frz (HD low its)) (.list (HD low its)) tail1) rfl (.inl rfl) hlen (ps_ok hl hi) hup.1 hup.2.1 hup.2.2 (by lia)
 rw [up_q hl hi] at wg
 refine iCmp1 rfl rfl ?_;refine xFrz ?_;refine xMethU rfl (by rfl) ?_;refine xN l347_mixture rfl ?_
 refine ⟨298,["_headers"],[.loc 2],237,fi237,rfl,by decide +kernel,by rfl,by rfl,by rfl,?_⟩
 refine xEvs1 ?_;refine xFrzO ?_;refine xMethB rfl rfl (by decide +kernel) ?_;refine xFrz ?_;refine xSubC ?_;refine xN l347_words rfl ?_
 refine ⟨.str (Wp (low + 0)),by rfl,_,_,rfl,"str","str.upper",rfl,by decide +kernel,?_⟩
 refine xEvs0 ?_
 refine ⟨_,upperOk t2,rfl,_,_,rfl,?_⟩
 refine xEvs0 ?_;refine xEvk0 ?_
 refine ⟨_,_,_,wg,gc_len (by rw [List.length_set]),_,_,rfl,?_⟩
 refine xFrz ?_;refine xList rfl rfl ?_;refine xEvs1 ?_;refine xFrz ?_;refine xStr ?_
 refine ⟨_,_,rfl,?_⟩
 refine xEvs0 ?_
 refine ⟨⟨rfl,one_sz⟩,_,_,rfl,false,cNeSame (a:=.lst [.str "alone"]) (by decide +kernel) rfl,Br.f ?_⟩
 refine xss0 ?_
 show seqK _ _ _ _ _ _ (obC le (.frz (HD low its)) (.frz (HD low its)) tail1)
 refine seqGC (by rw [obC_len]; lia) hj1 fun tail2 hj2 => ?_
 refine xss1 ?_
 refine ⟨_,_,_,sets_ok (f + 40) _ _ _ _ _ _ _ _ _ _ _ _ _ _ _ _ _ _ _ _,?_⟩
 refine seqNg (gc_live (i:=19) rfl (by simp)) ?_
 have hat:(obC le (.frz (HD low its)) (.frz (HD low its)) tail2 ++ [AO.list SETSAV])[(obC le (.frz (HD low its)) (.frz (HD low its)) tail2).length]? = some (.list SETSAV):=at_mid rfl
 have wsm:=w342 (F:=f + 98) (low:=low) (mk:=3) (j:=2) (its:=its) (ws:=ws) (Ob:=obC le (.frz (HD low its)) (.frz (HD low its)) (tail2 ++ [.frz SETSAV])) hl hi (by lia) h3 hw (by lia) (by lia) rfl (.inr rfl)
 have hset:(obC le (.frz (HD low its)) (.frz (HD low its)) (tail2 ++ [.frz SETSAV])).set 2 (.frz ((hdrs low its).map pairAV)) = obC le (.frz (HD low its)) (.frz (HD low its)) (tail2 ++ [.frz SETSAV]):=rfl
 rw [hset] at wsm
 refine xss1 ?_;refine sAssign1 s347_sums rfl ?_;refine xCallS g347__law_sums rfl rfl rfl ?_;refine xEvs1 ?_;refine xFrzN ?_;refine xN l347_mixture rfl ?_
 refine ⟨rfl,?_⟩
 refine xEvs1 ?_;refine fNO l347_laid rfl rfl ?_;refine xEvs1 ?_;refine xFrzO ?_;refine xComp (tg:=.one 1) (V:=[none,none,some (.lst (wordAV low))]) (by kernel_rfl) (by kernel_rfl) rfl (by kernel_rfl) ?_;refine eIt_o (by kernel_rfl) ?_;refine fN l347_sets rfl (tr_list hat) ?_
 rw [set_mid rfl,obC_app]
 refine ⟨_,.inl rfl,by decide,?_⟩
 refine xC (by show 0 < sizeLine; decide) rfl (nameE (f:=f + 57) (s:=0) hl (by lia) ⟨rfl,?_⟩)
 refine xC (by show 1 < sizeLine; decide) rfl (nameE (f:=f + 57) (s:=1) hl (by lia) ⟨rfl,?_⟩)
 refine xC (by show 2 < sizeLine; decide) rfl (nameE (f:=f + 57) (s:=2) hl (by lia) ⟨rfl,?_⟩)
 refine xC (by show 3 < sizeLine; decide) rfl (nameE (f:=f + 57) (s:=3) hl (by lia) ⟨rfl,?_⟩)
 refine xC (by show 4 < sizeLine; decide) rfl (nameE (f:=f + 57) (s:=4) hl (by lia) ⟨rfl,?_⟩)
 refine xC0 (by show 5 ≤ sizeLine; decide) ⟨_,_,rfl,?_⟩
 refine xEvs1 ?_;refine fNO l347_labels rfl rfl ?_;refine xEvs1 ?_;refine fNO l347_weights rfl rfl ?_;refine xEvs0 ?_
 refine ⟨rfl,_,_,_,wsm,gc_keep rfl,?_⟩
 simp only [obC_app,obC_len]
 have hsn:noR (.list (iavs (SUMS ws its 5))):=fun _ => rfl
 have hj3:Junk (tail2 ++ [.frz SETSAV] ++ [.list (iavs (SUMS ws its 5))]):=junk1 (junk1 hj2 fun _ => rfl) hsn
 refine seqNg (gc_live (i:=20) rfl (by rw [obC_len]; simp; lia)) ?_;refine xss1 ?_;refine sIf1 ?_;refine iNoneL rfl ?_;refine xN l347_sums rfl ?_
 refine ⟨_,rfl,Br.f ?_⟩
 refine xss0 ?_;refine seqN ?_;refine hK _ (4 + tail2.length) (4 + (tail2 ++ [AO.frz SETSAV]).length) hj3 (by lia) (by lia) ?_ ?_
 ·rw [List.append_assoc]; exact at_mid (by lia)
 ·exact at_mid (by lia)
noncomputable def absI (i:Int):Int:=if i < 0 then -i else i
noncomputable def mxOf (w0 w1 w2:Int):Int:=maxI (absI w0) [absI w1,absI w2]
noncomputable def muchOf (w0 w1 w2:Int):Int:=1 + mxOf w0 w1 w2 / 2 ^ (bts (mxOf w0 w1 w2) * 2 / 3)
theorem absI_nat (i:Int):absI i = (i.natAbs:Int):=by unfold absI; split <;> omega
theorem mx_mem (w0 w1 w2:Int):mxOf w0 w1 w2 = absI w0 ∨ mxOf w0 w1 w2 = absI w1 ∨ mxOf w0 w1 w2 = absI w2:=by
 unfold mxOf
 rcases maxI_mem (absI w0) [absI w1,absI w2] with q | q
 ·exact .inl q
 ·rcases List.mem_cons.mp q with q | q
  ·exact .inr (.inl q)
  ·exact .inr (.inr (List.mem_singleton.mp q))
theorem segD {f:Nat} {w0 w1 w2:Int} {KS:AF → VS → OB → Prop} {v0 v1 v2 v3 v4 v5 v7 v8 v9 v10 v11 v12 v13 v14 v15 v16 v17 v18 v19 v20:Option AV} {ob:OB} (hb:bts (mxOf w0 w1 w2) ≤ 2 ^ 22)
  (hK:runS (ss ((ev GP0 (f + 100)).s (fsc fi347)) (fi347.body.drop 19)) (VL v0 v1 v2 v3 v4 v5 (some (.lst (iavs [w0,w1,w2]))) v7 v8 v9 v10 v11 v12 v13 v14 v15 v16 v17 v18 v19 v20 (some (.int (muchOf w0 w1 w2))) u u u u u u u u u) ob KS) :
  runS (ss ((ev GP0 (f + 100)).s (fsc fi347)) (fi347.body.drop 17)) (VL v0 v1 v2 v3 v4 v5 (some (.lst (iavs [w0,w1,w2]))) v7 v8 v9 v10 v11 v12 v13 v14 v15 v16 v17 v18 v19 v20 u u u u u u u u u u) ob KS:=by
 have habs:∀ (i:Int) (ob:OB),bfn "abs" [.int i] ob = some (.int (absI i),ob):=fun _ _ => rfl
 have hmax:∀ ob:OB,bfn "max" [.lst [.int (absI w0),.int (absI w1),.int (absI w2)]] ob = some (.int (mxOf w0 w1 w2),ob):=fun _ => rfl
 refine xss1 ?_;refine sAssign1 s347_much rfl ?_;refine xCallB g347_max rfl rfl ?_;refine xEvs1 ?_;refine xFrzO ?_;refine xComp (tg:=.one 1) (V:=[none,none,none]) (by kernel_rfl) (by kernel_rfl) rfl (by kernel_rfl) ?_;refine eIt_o (by kernel_rfl) ?_;refine fN l347_weights rfl rfl ?_
 refine ⟨_,.inl rfl,by show 3 ≤ sizeLine; decide,?_⟩
 refine xC (by show 0 < sizeLine; decide) rfl ?_;refine xFrz ?_;refine xCallB (id:="abs") (by kernel_rfl) rfl rfl ?_;refine xEvs1 ?_;refine fNO (i:=1) (by kernel_rfl) rfl rfl ?_;refine xEvs0 ?_
 refine ⟨rfl,_,habs _ _,_,_,rfl,rfl,?_⟩
 refine xC (by show 1 < sizeLine; decide) rfl ?_;refine xFrz ?_;refine xCallB (id:="abs") (by kernel_rfl) rfl rfl ?_;refine xEvs1 ?_;refine fNO (i:=1) (by kernel_rfl) rfl rfl ?_;refine xEvs0 ?_
 refine ⟨rfl,_,habs _ _,_,_,rfl,rfl,?_⟩
 refine xC (by show 2 < sizeLine; decide) rfl ?_;refine xFrz ?_;refine xCallB (id:="abs") (by kernel_rfl) rfl rfl ?_;refine xEvs1 ?_;refine fNO (i:=1) (by kernel_rfl) rfl rfl ?_;refine xEvs0 ?_
 refine ⟨rfl,_,habs _ _,_,_,rfl,rfl,?_⟩
 refine xC0 three_sz ⟨_,_,rfl,?_⟩
 refine xEvs0 ?_
 refine ⟨rfl,_,hmax _,seqN ?_⟩
 have h3:bts (3:Int) = 2:=by decide
 have h2:bts (2:Int) = 2:=by decide
 have hbb:bts ((bts (mxOf w0 w1 w2):Nat):Int) ≤ 24:=bts_le' (Int.natCast_nonneg _) (by rw [show (2:Int) ^ 24 = 16777216 by decide]; lia)
 have e1:((bts (mxOf w0 w1 w2):Nat):Int) * 2 / 3 = ((bts (mxOf w0 w1 w2) * 2 / 3:Nat):Int):=by lia
 refine xss1 ?_;refine sAssignB s347_much ?_;refine fI ?_;refine fB ?_;refine fN l347_much rfl rfl ?_;refine fB ?_;refine fB ?_;refine xFrz ?_;refine xBits rfl rfl rfl ?_;refine xN l347_much rfl ?_
 refine ⟨_,rfl,rfl,?_⟩
 refine ⟨_,_,rfl,?_⟩
 refine fI ?_
 refine ⟨_,bMul (show bts ((bts (mxOf w0 w1 w2):Nat):Int) + bts 2 ≤ 2 ^ 27 by lia),?_⟩
 refine fI ?_
 refine ⟨_,bFd (by lia) (by lia),?_⟩
 refine ⟨_,bShr e1,rfl,_,bAdd,seqN ?_⟩
 exact hK
noncomputable def CH (c s:Nat):Int:=(((tabOf c).filter fun p => p.1 == s).map fun p => (-1:Int) ^ p.2).sum
noncomputable def IP (c c':Nat):Int:=((tabOf c).map fun p => (-1:Int) ^ p.2 * CH c' p.1).sum
theorem ip_ok:∀ c < 8,∀ c' < 8,IP (sortOf c) c' = if cntOf c = cntOf c' then shareOf c else 0:=by decide +kernel
theorem sort_lt:∀ c < 8,sortOf c < 8:=by decide
theorem share_ok:∀ c < 8,0 < shareOf c ∧ shareOf c ≤ 24:=by decide
theorem tot_add (ws:List Int) (its:List Item):∀ t:Int,tot ws t its = t + tot ws 0 its:=by
 induction its with
 | nil => exact fun t => (Int.add_zero t).symm
 | cons it r ih => exact fun t => (ih _).trans ((Int.add_assoc ..).trans (congrArg (t + ·) ((ih (0 + _)).trans (congrArg (· + _) (Int.zero_add _))).symm))
theorem tot_app (ws:List Int) (a b:List Item):∀ t:Int,tot ws t (a ++ b) = tot ws (tot ws t a) b:=by
 induction a with
 | nil => exact fun _ => rfl
 | cons _ r ih => exact fun _ => ih _
theorem sel_app (s:Nat) (a b:List Item):sel s (a ++ b) = sel s a ++ sel s b:=by unfold sel; rw [List.filter_append]
theorem tot_tab (ws:List Int) (k s:Nat):∀ ps:List (Nat × Nat),tot ws 0 (sel s (ps.map fun p => (p.1,k,p.2))) = wAt ws k * ((ps.filter fun p => p.1 == s).map fun p => (-1:Int) ^ p.2).sum
 | [] => (Int.mul_zero _).symm
 | p :: ps => by
  have ih:=tot_tab ws k s ps
  unfold sel at *
  rw [List.map_cons,List.filter_cons,List.filter_cons]
  cases h:(p.1 == s) with
  | false => simpa using ih
  | true =>
   simp only [if_true,List.map_cons,List.sum_cons]
   show tot ws (0 + (-1) ^ p.2 * wAt ws k) _ = _
   rw [tot_add,ih,Int.mul_add,Int.mul_comm (wAt ws k) ((-1) ^ p.2)]; lia
theorem SUM_eq (ws cs:List Int) (s:Nat):SUM ws (itsB cs) s = wAt ws 0 * CH (cdOf cs 0) s + wAt ws 1 * CH (cdOf cs 1) s + wAt ws 2 * CH (cdOf cs 2) s:=by
 unfold SUM itsB
 rw [sel_app,sel_app,tot_app,tot_app,tot_add,tot_add ws (sel s (tabI (cdOf cs 1) 1))]
 unfold tabI
 rw [tot_tab,tot_tab,tot_tab]
 unfold CH
 lia
noncomputable def TOT (ws cs:List Int) (c:Nat):Int:=((tabOf c).map fun p => (-1:Int) ^ p.2 * SUM ws (itsB cs) p.1).sum
theorem tot_ip (ws cs:List Int):∀ ps:List (Nat × Nat),(ps.map fun p => (-1:Int) ^ p.2 * SUM ws (itsB cs) p.1).sum =
  wAt ws 0 * (ps.map fun p => (-1:Int) ^ p.2 * CH (cdOf cs 0) p.1).sum + wAt ws 1 * (ps.map fun p => (-1:Int) ^ p.2 * CH (cdOf cs 1) p.1).sum + wAt ws 2 * (ps.map fun p => (-1:Int) ^ p.2 * CH (cdOf cs 2) p.1).sum
 | [] => by simp
 | p :: ps => by
  have ih:=tot_ip ws cs ps
  simp only [List.map_cons,List.sum_cons]
  rw [ih,SUM_eq]
  generalize (-1:Int) ^ p.2 = g
  generalize CH (cdOf cs 0) p.1 = a
  generalize CH (cdOf cs 1) p.1 = b
  generalize CH (cdOf cs 2) p.1 = c
  simp only [Int.mul_add]
  have h:∀ x y:Int,x * (g * y) = g * (x * y):=fun x y => by rw [← Int.mul_assoc,Int.mul_comm x g,Int.mul_assoc]
  rw [h,h,h]; lia
noncomputable def alk (cs:List Int) (k j:Nat):Bool:=decide (cntOf (cdOf cs k) = cntOf (cdOf cs j))
noncomputable def dueOf (ws cs:List Int) (k:Nat):Int:=(if alk cs k 0 then wAt ws 0 else 0) + (if alk cs k 1 then wAt ws 1 else 0) + (if alk cs k 2 then wAt ws 2 else 0)
theorem tot_due (ws cs:List Int) {k:Nat} (hk:k < 3):TOT ws cs (sortOf (cdOf cs k)) = shareOf (cdOf cs k) * dueOf ws cs k:=by
 have hc:∀ j,j < 3 → cdOf cs j < 8:=fun j hj => cdOf_lt hj
 unfold TOT
 rw [tot_ip]
 have e:∀ j,j < 3 → ((tabOf (sortOf (cdOf cs k))).map fun p => (-1:Int) ^ p.2 * CH (cdOf cs j) p.1).sum = if alk cs k j then shareOf (cdOf cs k) else 0:=fun j hj => by
  have:=ip_ok (cdOf cs k) (hc k hk) (cdOf cs j) (hc j hj)
  unfold IP at this
  rw [this]
  unfold alk
  by_cases h:cntOf (cdOf cs k) = cntOf (cdOf cs j) <;> simp [h]
 rw [e 0 (by lia),e 1 (by lia),e 2 (by lia)]
 unfold dueOf
 generalize shareOf (cdOf cs k) = sh
 rw [Int.mul_add,Int.mul_add]
 have h:∀ (b:Bool) (w:Int),w * (if b = true then sh else 0) = sh * (if b = true then w else 0):=fun b w => by
  cases b <;> simp [Int.mul_comm]
 rw [h,h,h]
theorem told_ok {due under rest over:Int} (hu:0 < under) (h0:0 ≤ rest) (h1:rest < under) (ho:over = due * under + rest) :
  over / under = due ∧ over % under = rest ∧ - -over / - -under = due ∧ -(- -over % - -under) = -rest ∧ (-over - 1) / under = -due - 1 ∧ (-over - 1) % under = under - 1 - rest:=by
 have a:=fin60' hu (A:=over) (q:=due) (r:=rest) (by lia) h0 h1
 have b:=fin60' hu (A:=-over - 1) (q:=-due - 1) (r:=under - 1 - rest) (by rw [Int.sub_mul,Int.neg_mul]; lia) (by lia) (by lia)
 injection a with a
 injection b with b
 simp only [List.cons.injEq,and_true] at a b
 have I:∀ {x y:Int},AV.int x = AV.int y → x = y:=fun h => by injection h
 replace a:=And.intro (I a.1) (I a.2)
 replace b:=And.intro (I b.1) (I b.2)
 rw [Int.neg_neg,Int.neg_neg]
 exact ⟨a.1.symm,a.2.symm,a.1.symm,by rw [← a.2],b.1.symm,b.2.symm⟩
noncomputable def obD (z a b:AO) (tail:OB):OB:=[z,a,b,.inst 298 ["_headers"] [.loc 2]] ++ tail
theorem obD_get {z a b tail i} (hi:4 ≤ i):(obD z a b tail)[i]? = tail[i - 4]?:=by
 unfold obD
 rw [List.getElem?_append_right (by simpa using hi)]
 simp
theorem setix_ok (ob:OB) (s:Nat) (hs:s < 5):mfn GP0 "list.index" [.lst SETSAV,setAV s] ob = some (.int s,ob) :=
 bd5 (P:=fun s => mfn GP0 "list.index" [.lst SETSAV,setAV s] ob = some (.int s,ob)) (by kernel_rfl) (by kernel_rfl) (by kernel_rfl) (by kernel_rfl) (by kernel_rfl) s hs
theorem SUMS_get {ws its s} (hs:s < 5):(SUMS ws its 5).getD s 0 = SUM ws its s:=by
 unfold SUMS
 rw [List.getD_eq_getElem?_getD,List.getElem?_map,List.getElem?_range hs]; rfl
theorem SUMS_len {ws its a}:(SUMS ws its a).length = a:=by unfold SUMS; simp
noncomputable def bodyE:List Stmt:=forBody (stLaw 19)
noncomputable def cArg:Stmt → Expr
 | .Assign _ (.Call _ (e :: _) _ _) _ => e
 | _ => .Constant .none 0 default
noncomputable def eltT:Expr:=eltOf (cArg ((bodyE[1]?).getD (.Pass default)))
noncomputable def scT:Sc:=compSc (fsc fi347) (scpOf (cArg ((bodyE[1]?).getD (.Pass default))))
theorem compU {f a b:Nat} {ws:List Int} {its:List Item} {A:Option AV} {ob:OB} {KL:List AV → OB → Prop} (ha:ob[a]? = some (.frz SETSAV)) (hb:ob[b]? = some (.list (iavs (SUMS ws its 5)))) (hS:∀ s < 5,bts (SUM ws its s) ≤ 2 ^ 23):∀ (ps:List (Nat × Nat)) (acc:List Int) (x y:Option AV),(∀ p ∈ ps,p.1 < 5 ∧ p.2 < 4) → acc.length + ps.length ≤ 100 →
  KL (iavs (acc ++ ps.map fun p => (-1:Int) ^ p.2 * SUM ws its p.1)) ob →
  runL (compF (.two 1 2) (fun _ ob => some (true,ob)) (frz ((ev GP0 (f + 40)).e scT eltT)) (ps.map fun p => .tup [setAV p.1,.int (p.2:Int)]) (iavs acc)) [A,x,y,some (.loc a),some (.loc b)] ob KL:=by
 intro ps
 have hs:sizeLine = 2 ^ 24:=rfl
 induction ps with
 | nil => intro acc x y _ hl k; exact xC0 (by rw [iavs_len]; lia) (by simpa using k)
 | cons p ps ih =>
  intro acc x y hp hl k
  rw [List.length_cons] at hl
  obtain ⟨p1,p2⟩:=hp p (List.mem_cons_self ..)
  have htr:tr ob (.loc a) = some (.lst SETSAV,ob):=bindI ha rfl
  rw [List.map_cons]
  refine xC (by rw [iavs_len]; lia) rfl ?_;refine fB ?_;refine fB ?_;refine xFrz ?_;refine xNeg ?_;refine xInt ?_
  refine ⟨_,rfl,?_⟩
  refine ⟨_,_,rfl,?_⟩
  refine fN (i:=2) (by kernel_rfl) rfl rfl ?_
  refine ⟨_,bPow p2,?_⟩
  refine xFrz ?_;refine xSubE rfl rfl ?_;refine xN (i:=4) (by kernel_rfl) rfl ?_;refine xMethB rfl rfl (by decide +kernel) ?_;refine fN (i:=3) (by kernel_rfl) rfl htr ?_
  refine ⟨"list","list.index",rfl,by decide +kernel,?_⟩
  refine xEvs1 ?_;refine fN (i:=1) (by kernel_rfl) rfl rfl ?_;refine xEvs0 ?_
  refine ⟨_,setix_ok _ _ p1,rfl,_,_,rfl,(subsLoc (rd_list hb)).trans ((getIx_nat (by lia)).trans (iavs_get (by rw [SUMS_len]; lia))),_,_,rfl,?_⟩
  rw [SUMS_get p1]
  refine ⟨_,bMul (by have:=hS p.1 p1; rw [bts_sg p.2 p2]; lia),rfl,?_⟩
  have e:iavs acc ++ [AV.int ((-1) ^ p.2 * SUM ws its p.1)] = iavs (acc ++ [(-1) ^ p.2 * SUM ws its p.1]):=by rw [iavs_app]; rfl
  rw [e]
  refine ih _ _ _ (fun y hy => hp y (List.mem_cons_of_mem _ hy)) (by simp; lia) ?_
  rw [List.map_cons] at k
  rw [List.append_assoc]; exact k
theorem turnE1 {f k a b c b0:Nat} {ws:List Int} {cs:List Int} {z o1 o2:AO} {le:List AV} {tail:OB} {KS:AF → VS → OB → Prop} {v0 v1 v2 v3 v4 v6 v7 v9 v10 v11 v12 v13 v14 v15 v16 v17 v18 v21 v22 v23 v24 v25 v26 v27 v28 v29 v30:Option AV} (hk:k < 3) (hc:c < 8) (ha:4 ≤ a) (hb:4 ≤ b) (hta:tail[a - 4]? = some (.frz SETSAV)) (htb:tail[b - 4]? = some (.list (iavs (SUMS ws (itsB cs) 5)))) (hz:z = .list le ∨ z = .frz le) (hle:le[k]? = some (.inst 150 wsNs (leadO c b0 k))) (hS:∀ s < 5,bts (SUM ws (itsB cs) s) ≤ 2 ^ 23)
  (hK:runS (ss ((ev GP0 (f + 99)).s (fsc fi347)) (bodyE.drop 2)) (VL v0 v1 v2 v3 v4 (some (.int k)) v6 v7 (some (.loc 0)) v9 v10 v11 v12 v13 v14 v15 v16 v17 v18 (some (.loc a)) (some (.loc b)) v21 (some (.lst (iavs (runsOf (sortOf c))))) (some (.int (shareOf c))) (some (.int (TOT ws cs (sortOf c)))) v25 v26 v27 v28 v29 v30) (obD z o1 o2 tail) KS) :
  runS (ss ((ev GP0 (f + 99)).s (fsc fi347)) bodyE) (VL v0 v1 v2 v3 v4 (some (.int k)) v6 v7 (some (.loc 0)) v9 v10 v11 v12 v13 v14 v15 v16 v17 v18 (some (.loc a)) (some (.loc b)) v21 v22 v23 v24 v25 v26 v27 v28 v29 v30) (obD z o1 o2 tail) KS:=by
 have hs:sizeLine = 2 ^ 24:=rfl
 have hrd:rdL (obD z o1 o2 tail) (.loc 0) = some le:=by rcases hz with rfl | rfl <;> rfl
 have hct:=counted_ok (obD z o1 o2 tail) (f + 57) (.bool (decide (((cntOf c).length:Int) ≤ 1))) (.int b0) (.int (lenOf c)) (.int ((4 + lenOf c + b0:Nat):Int)) (.str (LS c b0 k)) c hc
 have hsc:=sort_lt c hc
 have htab:=table_ok (obD z o1 o2 tail) (f + 55) (sortOf c) hsc
 have htl:=tab_len (sortOf c) hsc
 refine xss1 ?_;refine sTup1 s347_runs s347_share ⟨by decide,rfl⟩ ?_;refine xCallI g347__law_counted rfl rfl rfl ?_;refine xEvs1 ?_;refine xFrzO ?_;refine xSubN ?_;refine xN l347_leads rfl ?_;refine xN l347_k rfl ?_
 refine ⟨_,_,rfl,(subsLoc hrd).trans ((getIx_nat (by lia)).trans hle),_,_,rfl,?_⟩
 refine xEvs0 ?_
 refine ⟨rfl,rfl,_,hct,_,_,rfl,seqN ?_⟩
 refine xss1 ?_;refine sAssign1 s347_total rfl ?_;refine xCallB g347_sum rfl rfl ?_;refine xEvs1 ?_;refine xFrzO ?_;refine xComp (tg:=.two 1 2) (V:=[none,none,none,some (.loc a),some (.loc b)]) (by kernel_rfl) (by kernel_rfl) rfl (by kernel_rfl) ?_;refine eIt_o (by kernel_rfl) ?_;refine xFrz ?_;refine xCallI g347__law_table rfl rfl rfl ?_;refine xEvs1 ?_;refine fNO l347_runs rfl rfl ?_;refine xEvs0 ?_
 refine ⟨rfl,rfl,_,htab,_,_,rfl,_,.inl rfl,by unfold tabAV; rw [List.length_map]; lia,?_⟩
 refine compU (f:=f + 56) (ws:=ws) (its:=itsB cs) (by rw [obD_get ha]; exact hta) (by rw [obD_get hb]; exact htb) hS (tabOf (sortOf c)) [] none none (tab_ok _ hsc) (by simp; lia) ?_
 rw [List.nil_append]
 refine ⟨_,_,rfl,?_⟩
 refine xEvs0 ?_
 refine ⟨rfl,_,sumOk,seqN ?_⟩
 exact hK
noncomputable def stE (k:Nat):Stmt:=(bodyE[k]?).getD (.Pass default)
theorem alikeIf_ok (n:Nat) (ob:OB) (v0 v1 v2 v3 v4 v5 v6 v7 v8 v9 v10 v11 v12 v13 v14 v15 v16 v17 v18 v19 v20 v21 v22 v23 v24 v26 v27 v28 v29 v30:Option AV):∀ e0 e1 e2:Bool,
  (ev GP0 (n + 60)).s (fsc fi347) (stE 3) (VL v0 v1 v2 v3 v4 v5 v6 v7 v8 v9 v10 v11 v12 v13 v14 v15 v16 v17 v18 v19 v20 v21 v22 v23 v24 (some (.lst [.bool e0,.bool e1,.bool e2])) v26 v27 v28 v29 v30) ob =
   some (.next,VL v0 v1 v2 v3 v4 v5 v6 v7 v8 v9 v10 v11 v12 v13 v14 v15 v16 v17 v18 v19 v20 v21 v22 v23 v24 (some (.lst [.bool e0,.bool e1,.bool e2])) v26 v27 v28 v29 v30,ob):=by
 intro e0 e1 e2
 cases e0 <;> cases e1 <;> cases e2 <;> kernel_rfl
noncomputable def dueL (e0 e1 e2:Bool) (w0 w1 w2:Int):List Int:=(if e0 then [w0] else []) ++ ((if e1 then [w1] else []) ++ (if e2 then [w2] else []))
noncomputable def dueE:Expr:=cArg (stE 4)
theorem due_ok (n:Nat) (ob:OB) (w0 w1 w2:Int) (v0 v1 v2 v3 v4 v5 v7 v8 v9 v10 v11 v12 v13 v14 v15 v16 v17 v18 v19 v20 v21 v22 v23 v24 v26 v27 v28 v29 v30:Option AV):∀ e0 e1 e2:Bool,
  (ev GP0 (n + 60)).e (fsc fi347) dueE (VL v0 v1 v2 v3 v4 v5 (some (.lst [.int w0,.int w1,.int w2])) v7 v8 v9 v10 v11 v12 v13 v14 v15 v16 v17 v18 v19 v20 v21 v22 v23 v24 (some (.lst [.bool e0,.bool e1,.bool e2])) v26 v27 v28 v29 v30) ob =
   some (.lst (iavs (dueL e0 e1 e2 w0 w1 w2)),ob):=by
 intro e0 e1 e2
 cases e0 <;> cases e1 <;> cases e2 <;> kernel_rfl
theorem dueL_sum (e0 e1 e2:Bool) (w0 w1 w2:Int):(dueL e0 e1 e2 w0 w1 w2).sum = (if e0 then w0 else 0) + (if e1 then w1 else 0) + (if e2 then w2 else 0):=by
 cases e0 <;> cases e1 <;> cases e2 <;> simp [dueL] <;> lia
theorem turnE2 {f k b:Nat} {w0 w1 w2 much share total:Int} {cs:List Int} {z o1 o2:AO} {tail:OB} {KS:AF → VS → OB → Prop} {v0 v1 v2 v3 v4 v7 v9 v10 v11 v12 v13 v14 v15 v16 v17 v18 v19 v20 v22 v25 v26 v27 v28 v29 v30:Option AV} (hk:k < 3) (hz:z = .list (lesB cs b) ∨ z = .frz (lesB cs b))
  (hu:0 < share * much) (hb1:bts share + bts much ≤ 2 ^ 27) (hb2:bts total + bts much ≤ 2 ^ 27)
  (hK:runS (ss ((ev GP0 (f + 99)).s (fsc fi347)) (bodyE.drop 8)) (VL v0 v1 v2 v3 v4 (some (.int k)) (some (.lst (iavs [w0,w1,w2]))) v7 (some (.loc 0)) v9 v10 v11 v12 v13 v14 v15 v16 v17 v18 v19 v20 (some (.int much)) v22 (some (.int share)) (some (.int total)) (some (.lst [.bool (alk cs k 0),.bool (alk cs k 1),.bool (alk cs k 2)])) (some (.int (dueOf [w0,w1,w2] cs k))) (some (.int (share * much))) (some (.int (absI (wAt [w0,w1,w2] k) % (share * much)))) (some (.int (total * much + absI (wAt [w0,w1,w2] k) % (share * much)))) v30) (obD (.frz (lesB cs b)) o1 o2 tail) KS) :
  runS (ss ((ev GP0 (f + 99)).s (fsc fi347)) (bodyE.drop 2)) (VL v0 v1 v2 v3 v4 (some (.int k)) (some (.lst (iavs [w0,w1,w2]))) v7 (some (.loc 0)) v9 v10 v11 v12 v13 v14 v15 v16 v17 v18 v19 v20 (some (.int much)) v22 (some (.int share)) (some (.int total)) v25 v26 v27 v28 v29 v30) (obD z o1 o2 tail) KS:=by
 have hs:sizeLine = 2 ^ 24:=rfl
 have htr:tr (obD z o1 o2 tail) (.loc 0) = some (.lst (lesB cs b),obD (.frz (lesB cs b)) o1 o2 tail):=by rcases hz with rfl | rfl <;> rfl
 have hrd:rdL (obD (.frz (lesB cs b)) o1 o2 tail) (.loc 0) = some (lesB cs b):=rfl
 have hel:∀ j,j < 3 → (lesB cs b)[j]? = some (.inst 150 wsNs (leadO (cdOf cs j) b j)):=fun j hj => by
  match j,hj with
  | 0,_ => rfl
  | 1,_ => rfl
  | 2,_ => rfl
 have hlen:(obD (.frz (lesB cs b)) o1 o2 tail).length = (obD z o1 o2 tail).length:=by unfold obD; simp
 have hdec:∀ j,decide ((cntOf (cdOf cs k),b) = (cntOf (cdOf cs j),b)) = alk cs k j:=fun j => by unfold alk; simp
 have hw:∀ j,callS (ev GP0 (f + 97)) fi126 [.inst 150 wsNs (leadO (cdOf cs k) b k),.inst 150 wsNs (leadO (cdOf cs j) b j)] [] (obD (.frz (lesB cs b)) o1 o2 tail) = some (.bool (alk cs k j),obD (.frz (lesB cs b)) o1 o2 tail):=fun j => by
  rw [← hdec j]
  exact w126 rfl rfl ⟨rfl,rfl⟩ ⟨rfl,rfl⟩ (by lia)
 refine xss1 ?_;refine sAssignC (tg:=.one 1) (V:=[none,none,some (.int k),some (.loc 0)]) s347_alike (by kernel_rfl) (by kernel_rfl) rfl (by kernel_rfl) ?_;refine eIt_o (by kernel_rfl) ?_;refine fN l347_leads rfl htr ?_
 refine ⟨_,.inl rfl,three_sz,?_⟩
 refine xC (by show 0 < sizeLine; decide) rfl ?_;refine xFrz ?_;refine xMethU rfl (by rfl) ?_;refine xSubN ?_;refine xN (i:=3) (by kernel_rfl) rfl ?_;refine xN (i:=2) (by kernel_rfl) rfl ?_
 refine ⟨_,_,rfl,(subsLoc hrd).trans ((getIx_nat (by lia)).trans (hel k hk)),?_⟩
 refine ⟨150,wsNs,_,126,fi126,rfl,by decide +kernel,by rfl,by rfl,by rfl,?_⟩
 refine xEvs1 ?_;refine fNO (i:=1) (by kernel_rfl) rfl rfl ?_;refine xEvs0 ?_;refine xEvk0 ?_
 refine ⟨_,_,_,hw 0,gc_same,_,_,rfl,rfl,?_⟩
 refine xC (by show 1 < sizeLine; decide) rfl ?_;refine xFrz ?_;refine xMethU rfl (by rfl) ?_;refine xSubN ?_;refine xN (i:=3) (by kernel_rfl) rfl ?_;refine xN (i:=2) (by kernel_rfl) rfl ?_
 refine ⟨_,_,rfl,(subsLoc hrd).trans ((getIx_nat (by lia)).trans (hel k hk)),?_⟩
 refine ⟨150,wsNs,_,126,fi126,rfl,by decide +kernel,by rfl,by rfl,by rfl,?_⟩
 refine xEvs1 ?_;refine fNO (i:=1) (by kernel_rfl) rfl rfl ?_;refine xEvs0 ?_;refine xEvk0 ?_
 refine ⟨_,_,_,hw 1,gc_same,_,_,rfl,rfl,?_⟩
 refine xC (by show 2 < sizeLine; decide) rfl ?_;refine xFrz ?_;refine xMethU rfl (by rfl) ?_;refine xSubN ?_;refine xN (i:=3) (by kernel_rfl) rfl ?_;refine xN (i:=2) (by kernel_rfl) rfl ?_
 refine ⟨_,_,rfl,(subsLoc hrd).trans ((getIx_nat (by lia)).trans (hel k hk)),?_⟩
 refine ⟨150,wsNs,_,126,fi126,rfl,by decide +kernel,by rfl,by rfl,by rfl,?_⟩
 refine xEvs1 ?_;refine fNO (i:=1) (by kernel_rfl) rfl rfl ?_;refine xEvs0 ?_;refine xEvk0 ?_
 refine ⟨_,_,_,hw 2,gc_same,_,_,rfl,rfl,?_⟩
 refine xC0 three_sz ?_;refine seqL hlen ?_;refine xss1 ?_
 refine rS (alikeIf_ok (f + 39) ..) (seqN ?_)
 refine xss1 ?_;refine sAssign1 s347_due rfl ?_;refine xCallB g347_sum rfl rfl ?_;refine xEvs1 ?_;refine xFrzO ?_
 refine ⟨_,_,due_ok (f + 37) ..,_,_,rfl,?_⟩
 refine xEvs0 ?_
 refine ⟨rfl,_,sumOk,seqN ?_⟩
 rw [dueL_sum]
 refine xss1 ?_;refine sAssignB s347_under ?_;refine fN l347_share rfl rfl ?_;refine fN l347_much rfl rfl ?_
 refine ⟨rfl,_,bMul hb1,seqN ?_⟩
 refine xss1 ?_;refine sAssignB s347_rest ?_;refine xFrz ?_;refine xCallB g347_abs rfl rfl ?_;refine xEvs1 ?_;refine xFrzO ?_;refine xSubN ?_;refine xN l347_weights rfl ?_;refine xN l347_k rfl ?_
 refine ⟨_,_,rfl,subsLst.trans ((getIx_nat (by lia)).trans (iavs_get (by show k < 3; lia))),_,_,rfl,?_⟩
 refine xEvs0 ?_
 refine ⟨rfl,_,(rfl:bfn "abs" [.int (wAt [w0,w1,w2] k)] _ = some (.int (absI (wAt [w0,w1,w2] k)),_)),_,_,rfl,?_⟩
 refine fN l347_under rfl rfl ?_
 refine ⟨rfl,_,bMd hu,seqN ?_⟩
 refine xss1 ?_;refine sAssignB s347_over ?_;refine fB ?_;refine fN l347_total rfl rfl ?_;refine fN l347_much rfl rfl ?_
 refine ⟨_,bMul hb2,?_⟩
 refine fN l347_rest rfl rfl ?_
 refine ⟨rfl,_,bAdd,seqN ?_⟩
 exact hK
theorem tupAdd {xs ys:List AV} (h:xs.length + ys.length ≤ sizeLine ∧ xs.isEmpty = false ∧ ys.isEmpty = false):bopF .Add (.tup xs) (.tup ys) = some (.tup (xs ++ ys)):=if_pos h
theorem six_like {a b c d e f:Int}:okT (.tup [.int a,.int b,.int c,.int d,.int e,.int f]) = true ∧ dpt 10 (.tup [.int a,.int b,.int c,.int d,.int e,.int f]) = true:=⟨rfl,rfl⟩
theorem turnE3 {f:Nat} {due under rest over:Int} {KS:AF → VS → OB → Prop} {ob:OB} {v0 v1 v2 v3 v4 v5 v6 v7 v8 v9 v10 v11 v12 v13 v14 v15 v16 v17 v18 v19 v20 v21 v22 v23 v24 v25 v30:Option AV} (hu:0 < under) (h0:0 ≤ rest) (h1:rest < under) (ho:over = due * under + rest) {N1:Nat} (hN:N1 + 1 = 2 ^ 21) (b1:bts over ≤ N1) (b2:bts under ≤ 2 ^ 21)
  (hK:∀ told:Option AV,KS .next (VL v0 v1 v2 v3 v4 v5 v6 v7 v8 v9 v10 v11 v12 v13 v14 v15 v16 v17 v18 v19 v20 v21 v22 v23 v24 v25 (some (.int due)) (some (.int under)) (some (.int rest)) (some (.int over)) told) ob) :
  runS (ss ((ev GP0 (f + 199)).s (fsc fi347)) (bodyE.drop 8)) (VL v0 v1 v2 v3 v4 v5 v6 v7 v8 v9 v10 v11 v12 v13 v14 v15 v16 v17 v18 v19 v20 v21 v22 v23 v24 v25 (some (.int due)) (some (.int under)) (some (.int rest)) (some (.int over)) v30) ob KS:=by
 have hs:sizeLine = 2 ^ 24:=rfl
 obtain ⟨t1,t2,t3,t4,t5,t6⟩:=told_ok hu h0 h1 ho
 have b3:bts (-over - 1) ≤ 2 ^ 21:=by
  apply bts_le
  rw [← hN,show -over - 1 = -(over + 1) by rw [Int.neg_add,Int.sub_eq_add_neg],Int.natAbs_neg]
  exact Nat.lt_of_le_of_lt (Int.natAbs_add_le over 1) (Nat.lt_of_le_of_lt (Nat.le_trans (lt_bts over) (Nat.pow_le_pow_right (by decide) b1)) (Nat.pow_lt_pow_right (by decide) (Nat.lt_succ_self N1)))
 have w1:=w88 (F:=f + 196) (ob:=ob) (a:=over) (b:=under) hu (by lia) b2 (by lia)
 have w2:=w88n (F:=f + 196) (ob:=ob) (a:=-over) (b:=-under) (by lia) (by rw [bts_neg]; lia) (by rw [bts_neg]; exact b2) (by lia)
 have w3:=w88 (F:=f + 197) (ob:=ob) (a:=-over - 1) (b:=under) hu b3 b2 (by lia)
 rw [t1,t2] at w1
 rw [t3,t4] at w2
 rw [t5,t6] at w3
 refine xss1 ?_;refine sAssignB s347_told ?_;refine xFrz ?_;refine xBin ?_;refine xFrz ?_;refine xCallI g347_int_divmod rfl rfl rfl ?_;refine xEvs1 ?_;refine fNO l347_over rfl rfl ?_;refine xEvs1 ?_;refine fNO l347_under rfl rfl ?_;refine xEvs0 ?_
 refine ⟨rfl,rfl,_,w1,_,_,rfl,?_⟩
 refine xFrz ?_;refine xCallI g347_int_divmod rfl rfl rfl ?_;refine xEvs1 ?_;refine xFrzO ?_;refine xNeg ?_;refine xN l347_over rfl ?_
 refine ⟨_,rfl,?_⟩
 refine ⟨_,_,rfl,?_⟩
 refine xEvs1 ?_;refine xFrzO ?_;refine xNeg ?_;refine xN l347_under rfl ?_
 refine ⟨_,rfl,?_⟩
 refine ⟨_,_,rfl,?_⟩
 refine xEvs0 ?_
 refine ⟨rfl,rfl,_,w2,_,_,rfl,_,tupAdd ⟨by show 4 ≤ sizeLine; decide,rfl,rfl⟩,_,_,rfl,?_⟩
 refine xFrz ?_;refine xCallI g347_int_divmod rfl rfl rfl ?_;refine xEvs1 ?_;refine xFrzO ?_;refine xInv ?_;refine xN l347_over rfl ?_
 refine ⟨_,rfl,?_⟩
 refine ⟨_,_,rfl,?_⟩
 refine xEvs1 ?_;refine fNO l347_under rfl rfl ?_;refine xEvs0 ?_
 rw [bnot]
 refine ⟨rfl,rfl,_,w3,_,_,rfl,rfl,_,tupAdd ⟨by show 6 ≤ sizeLine; decide,rfl,rfl⟩,seqN ?_⟩
 refine xss1 ?_;refine sIf1 ?_;refine iOr ?_;refine iCmp1 rfl rfl ?_;refine xFrz ?_;refine xComp (tg:=.one 1) (V:=[none,none,none,none]) (by kernel_rfl) (by kernel_rfl) rfl (by kernel_rfl) ?_;refine eIt_o (by kernel_rfl) ?_;refine fN l347_told rfl rfl ?_
 refine ⟨_,.inr rfl,by show 6 ≤ sizeLine; decide,?_⟩
 refine xC (by show 0 < sizeLine; decide) rfl ?_;refine xFrz ?_;refine xCmpE rfl ?_;refine xFrz ?_;refine xCallTP (T:="type") (by kernel_rfl) rfl rfl ?_;refine xEvs1 ?_;refine xN (i:=1) (by kernel_rfl) rfl ?_;refine xEvs0 ?_
 refine ⟨rfl,.cst (.type "int"),rfl,_,_,rfl,?_⟩
 refine xFrz ?_;refine xG (a:=.cst (.type "int")) (by kernel_rfl) ?_
 refine ⟨_,_,rfl,?_⟩
 refine ⟨true,by decide,_,_,rfl,rfl,?_⟩
 refine xC (by show 1 < sizeLine; decide) rfl ?_;refine xFrz ?_;refine xCmpE rfl ?_;refine xFrz ?_;refine xCallTP (T:="type") (by kernel_rfl) rfl rfl ?_;refine xEvs1 ?_;refine xN (i:=1) (by kernel_rfl) rfl ?_;refine xEvs0 ?_
 refine ⟨rfl,.cst (.type "int"),rfl,_,_,rfl,?_⟩
 refine xFrz ?_;refine xG (a:=.cst (.type "int")) (by kernel_rfl) ?_
 refine ⟨_,_,rfl,?_⟩
 refine ⟨true,by decide,_,_,rfl,rfl,?_⟩
 refine xC (by show 2 < sizeLine; decide) rfl ?_;refine xFrz ?_;refine xCmpE rfl ?_;refine xFrz ?_;refine xCallTP (T:="type") (by kernel_rfl) rfl rfl ?_;refine xEvs1 ?_;refine xN (i:=1) (by kernel_rfl) rfl ?_;refine xEvs0 ?_
 refine ⟨rfl,.cst (.type "int"),rfl,_,_,rfl,?_⟩
 refine xFrz ?_;refine xG (a:=.cst (.type "int")) (by kernel_rfl) ?_
 refine ⟨_,_,rfl,?_⟩
 refine ⟨true,by decide,_,_,rfl,rfl,?_⟩
 refine xC (by show 3 < sizeLine; decide) rfl ?_;refine xFrz ?_;refine xCmpE rfl ?_;refine xFrz ?_;refine xCallTP (T:="type") (by kernel_rfl) rfl rfl ?_;refine xEvs1 ?_;refine xN (i:=1) (by kernel_rfl) rfl ?_;refine xEvs0 ?_
 refine ⟨rfl,.cst (.type "int"),rfl,_,_,rfl,?_⟩
 refine xFrz ?_;refine xG (a:=.cst (.type "int")) (by kernel_rfl) ?_
 refine ⟨_,_,rfl,?_⟩
 refine ⟨true,by decide,_,_,rfl,rfl,?_⟩
 refine xC (by show 4 < sizeLine; decide) rfl ?_;refine xFrz ?_;refine xCmpE rfl ?_;refine xFrz ?_;refine xCallTP (T:="type") (by kernel_rfl) rfl rfl ?_;refine xEvs1 ?_;refine xN (i:=1) (by kernel_rfl) rfl ?_;refine xEvs0 ?_
 refine ⟨rfl,.cst (.type "int"),rfl,_,_,rfl,?_⟩
 refine xFrz ?_;refine xG (a:=.cst (.type "int")) (by kernel_rfl) ?_
 refine ⟨_,_,rfl,?_⟩
 refine ⟨true,by decide,_,_,rfl,rfl,?_⟩
 refine xC (by show 5 < sizeLine; decide) rfl ?_;refine xFrz ?_;refine xCmpE rfl ?_;refine xFrz ?_;refine xCallTP (T:="type") (by kernel_rfl) rfl rfl ?_;refine xEvs1 ?_;refine xN (i:=1) (by kernel_rfl) rfl ?_;refine xEvs0 ?_
 refine ⟨rfl,.cst (.type "int"),rfl,_,_,rfl,?_⟩
 refine xFrz ?_;refine xG (a:=.cst (.type "int")) (by kernel_rfl) ?_
 refine ⟨_,_,rfl,?_⟩
 refine ⟨true,by decide,_,_,rfl,rfl,?_⟩
 refine xC0 (by show 6 ≤ sizeLine; decide) ⟨_,_,rfl,?_⟩
 refine xFrz ?_;refine xBin ?_;refine xFrz ?_;refine xList rfl rfl ?_;refine xEvs1 ?_;refine xFrz ?_;refine xBool ?_
 refine ⟨_,_,rfl,?_⟩
 refine xEvs0 ?_
 refine ⟨⟨rfl,one_sz⟩,_,_,rfl,?_⟩
 refine fI ?_
 refine ⟨_,bRep (c:=6) (by lia),_,_,rfl,false,cNeSame (a:=.lst (List.replicate 6 (.bool true))) rfl rfl,Br.f ?_⟩
 refine iCmp1 rfl rfl ?_;refine fN l347_told rfl rfl ?_;refine xFrz ?_;refine xTup rfl ?_;refine xEvs1 ?_;refine fN l347_due rfl rfl ?_;refine xEvs1 ?_;refine fN l347_rest rfl rfl ?_;refine xEvs1 ?_;refine fN l347_due rfl rfl ?_;refine xEvs1 ?_;refine xFrz ?_;refine xNeg ?_;refine xN l347_rest rfl ?_
 refine ⟨_,rfl,?_⟩
 refine ⟨_,_,rfl,?_⟩
 refine xEvs1 ?_;refine xFrz ?_;refine xInv ?_;refine xN l347_due rfl ?_
 refine ⟨_,rfl,?_⟩
 refine ⟨_,_,rfl,?_⟩
 refine xEvs1 ?_;refine fB ?_;refine fB ?_;refine fN l347_under rfl rfl ?_;refine fI ?_
 refine ⟨_,bSub,?_⟩
 refine fN l347_rest rfl rfl ?_
 refine ⟨_,bSub,?_⟩
 refine xEvs0 ?_
 refine ⟨⟨rfl,by show 6 ≤ sizeLine; decide⟩,_,_,rfl,false,cNeSame (a:=.tup [.int due,.int rest,.int due,.int (-rest),.int (-due - 1),.int (under - 1 - rest)]) rfl rfl,Br.f ?_⟩
 refine xss0 ?_;refine seqN ?_;refine xss0 ?_
 exact hK _
noncomputable def undOf (cs:List Int) (much:Int) (k:Nat):Int:=shareOf (cdOf cs k) * much
noncomputable def restOf (ws cs:List Int) (much:Int) (k:Nat):Int:=absI (wAt ws k) % undOf cs much k
noncomputable def overOf (ws cs:List Int) (much:Int) (k:Nat):Int:=TOT ws cs (sortOf (cdOf cs k)) * much + restOf ws cs much k
theorem turnE {f k a b b0 N1:Nat} {w0 w1 w2 much:Int} {cs:List Int} {z o1 o2:AO} {tail:OB} {KS:AF → VS → OB → Prop} {v0 v1 v2 v3 v4 v7 v9 v10 v11 v12 v13 v14 v15 v16 v17 v18 v22 v23 v24 v25 v26 v27 v28 v29 v30:Option AV} (hk:k < 3) (ha:4 ≤ a) (hb:4 ≤ b) (hta:tail[a - 4]? = some (.frz SETSAV)) (htb:tail[b - 4]? = some (.list (iavs (SUMS [w0,w1,w2] (itsB cs) 5)))) (hz:z = .list (lesB cs b0) ∨ z = .frz (lesB cs b0)) (hS:∀ s < 5,bts (SUM [w0,w1,w2] (itsB cs) s) ≤ 2 ^ 23)
  (hm:0 < much) (hN:N1 + 1 = 2 ^ 21) (hB:∀ k,k < 3 → bts (shareOf (cdOf cs k)) + bts much ≤ 2 ^ 27 ∧ bts (TOT [w0,w1,w2] cs (sortOf (cdOf cs k))) + bts much ≤ 2 ^ 27 ∧ bts (overOf [w0,w1,w2] cs much k) ≤ N1 ∧ bts (undOf cs much k) ≤ 2 ^ 21)
  (hK:∀ v22 v23 v24 v25 v26 v27 v28 v29 v30:Option AV,KS .next (VL v0 v1 v2 v3 v4 (some (.int k)) (some (.lst (iavs [w0,w1,w2]))) v7 (some (.loc 0)) v9 v10 v11 v12 v13 v14 v15 v16 v17 v18 (some (.loc a)) (some (.loc b)) (some (.int much)) v22 v23 v24 v25 v26 v27 v28 v29 v30) (obD (.frz (lesB cs b0)) o1 o2 tail)) :
  runS (ss ((ev GP0 (f + 199)).s (fsc fi347)) bodyE) (VL v0 v1 v2 v3 v4 (some (.int k)) (some (.lst (iavs [w0,w1,w2]))) v7 (some (.loc 0)) v9 v10 v11 v12 v13 v14 v15 v16 v17 v18 (some (.loc a)) (some (.loc b)) (some (.int much)) v22 v23 v24 v25 v26 v27 v28 v29 v30) (obD z o1 o2 tail) KS:=by
 have hel:(lesB cs b0)[k]? = some (.inst 150 wsNs (leadO (cdOf cs k) b0 k)):=by
  match k,hk with
  | 0,_ => rfl
  | 1,_ => rfl
  | 2,_ => rfl
 have hc:=cdOf_lt (cs:=cs) hk
 obtain ⟨s1,s2⟩:=share_ok _ hc
 obtain ⟨h1,h2,h3,h4⟩:=hB k hk
 have hu:0 < shareOf (cdOf cs k) * much:=Int.mul_pos s1 hm
 have htd:=tot_due [w0,w1,w2] cs hk
 refine turnE1 (f:=f + 100) (ws:=[w0,w1,w2]) hk hc ha hb hta htb hz hel hS ?_;refine turnE2 (f:=f + 100) (b:=b0) hk hz hu h1 h2 ?_
 refine turnE3 (f:=f) hu (Int.emod_nonneg _ (by lia)) (Int.emod_lt_of_pos _ hu) ?_ hN h3 h4 fun told => hK _ _ _ _ _ _ _ _ _
 rw [htd,Int.mul_comm (shareOf (cdOf cs k)) (dueOf _ _ _),Int.mul_assoc]
theorem segE {f a b b0 N1:Nat} {w0 w1 w2 much:Int} {cs:List Int} {z o1 o2:AO} {tail:OB} {v0 v1 v2 v3 v4 v5 v7 v9 v10 v11 v12 v13 v14 v15 v16 v17 v18 v22 v23 v24 v25 v26 v27 v28 v29 v30:Option AV} (ha:4 ≤ a) (hb:4 ≤ b) (hta:tail[a - 4]? = some (.frz SETSAV)) (htb:tail[b - 4]? = some (.list (iavs (SUMS [w0,w1,w2] (itsB cs) 5)))) (hz:z = .list (lesB cs b0) ∨ z = .frz (lesB cs b0)) (hS:∀ s < 5,bts (SUM [w0,w1,w2] (itsB cs) s) ≤ 2 ^ 23)
  (hm:0 < much) (hN:N1 + 1 = 2 ^ 21) (hB:∀ k,k < 3 → bts (shareOf (cdOf cs k)) + bts much ≤ 2 ^ 27 ∧ bts (TOT [w0,w1,w2] cs (sortOf (cdOf cs k))) + bts much ≤ 2 ^ 27 ∧ bts (overOf [w0,w1,w2] cs much k) ≤ N1 ∧ bts (undOf cs much k) ≤ 2 ^ 21) :
  runS (ss ((ev GP0 (f + 200)).s (fsc fi347)) (fi347.body.drop 19)) (VL v0 v1 v2 v3 v4 v5 (some (.lst (iavs [w0,w1,w2]))) v7 (some (.loc 0)) v9 v10 v11 v12 v13 v14 v15 v16 v17 v18 (some (.loc a)) (some (.loc b)) (some (.int much)) v22 v23 v24 v25 v26 v27 v28 v29 v30) (obD z o1 o2 tail)
   (fun fl _ ob1 => ∃ x ob2,fl = .ret x ∧ tr ob1 x = some (.bool true,ob2)):=by
 have hl:∀ z z':AO,(obD z o1 o2 tail).length = (obD z' o1 o2 tail).length:=fun _ _ => by unfold obD; simp
 refine xss1 ?_;refine sForO (tg:=.one 5) (by kernel_rfl) rfl rfl ?_;refine eIt_r1c (m:=3) (itRng1 rfl g347_range) (by lia) ?_;refine xInt ?_
 refine ⟨rfl,?_⟩
 rw [rngL_succ,rngL_succ,rngL_succ]
 refine xFor1 rfl (turnE (f:=f) (k:=0) (by lia) ha hb hta htb hz hS hm hN hB fun _ _ _ _ _ _ _ _ _ => ⟨rfl,?_⟩)
 refine xFor1 rfl (turnE (f:=f) (k:=1) (by lia) ha hb hta htb (.inr rfl) hS hm hN hB fun _ _ _ _ _ _ _ _ _ => ⟨rfl,?_⟩)
 refine xFor1 rfl (turnE (f:=f) (k:=2) (by lia) ha hb hta htb (.inr rfl) hS hm hN hB fun _ _ _ _ _ _ _ _ _ => ⟨rfl,?_⟩)
 refine xFor0 (xss0 ?_)
 refine seqL (hl _ _) ?_;refine xss1 ?_;refine sRet1 (.inl rfl) ?_;refine xBool ?_
 exact seqRL rfl ⟨_,_,rfl,rfl⟩
theorem bts_add {x y:Int} {p:Nat} (hx:bts x ≤ p) (hy:bts y ≤ p):bts (x + y) ≤ p + 1:=by
 apply bts_le
 have h1:=Nat.lt_of_lt_of_le (lt_bts x) (Nat.pow_le_pow_right (n:=2) (by decide) hx)
 have h2:=Nat.lt_of_lt_of_le (lt_bts y) (Nat.pow_le_pow_right (n:=2) (by decide) hy)
 rw [Nat.pow_succ,Nat.mul_two]
 exact Nat.lt_of_le_of_lt (Int.natAbs_add_le x y) (Nat.add_lt_add h1 h2)
theorem le2 {x a b c d e:Nat} (h:x ≤ a + b) (h1:a ≤ c) (h2:b ≤ d) (he:c + d ≤ e):x ≤ e:=Nat.le_trans h (Nat.le_trans (Nat.add_le_add h1 h2) he)
theorem natAbs_mono {x y:Int} (h0:0 ≤ x) (h:x ≤ y):x.natAbs ≤ y.natAbs:=Int.ofNat_le.mp (by rw [Int.natAbs_of_nonneg h0,Int.natAbs_of_nonneg (Int.le_trans h0 h)]; exact h)
theorem bts_wk {x:Int} {p q:Nat} (h:bts x ≤ p) (hq:p ≤ q):bts x ≤ q:=Nat.le_trans h hq
theorem ch_ok:∀ c < 8,∀ s < 5,bts (CH c s) ≤ 4:=by decide +kernel
theorem sh_bts:∀ c < 8,bts (shareOf c) ≤ 5:=by decide +kernel
theorem sizes {w0 w1 w2:Int} {cs:List Int} {p:Nat} (h0:bts w0 ≤ p) (h1:bts w1 ≤ p) (h2:bts w2 ≤ p) (hp:p ≤ 2 ^ 20 + 100) :
  bts (mxOf w0 w1 w2) ≤ p ∧ 0 < muchOf w0 w1 w2 ∧ (∀ s < 5,bts (SUM [w0,w1,w2] (itsB cs) s) ≤ p + 6) ∧ ∀ k,k < 3 → bts (shareOf (cdOf cs k)) + bts (muchOf w0 w1 w2) ≤ 2 ^ 27 ∧ bts (TOT [w0,w1,w2] cs (sortOf (cdOf cs k))) + bts (muchOf w0 w1 w2) ≤ 2 ^ 27 ∧ bts (overOf [w0,w1,w2] cs (muchOf w0 w1 w2) k) ≤ 2097151 ∧ bts (undOf cs (muchOf w0 w1 w2) k) ≤ 2 ^ 21:=by
 have ha:∀ w:Int,bts (absI w) = bts w:=fun w => by rw [bts_def,bts_def,absI_nat]; simp
 have hm:bts (mxOf w0 w1 w2) ≤ p:=by
  rcases mx_mem w0 w1 w2 with q | q | q <;> rw [q,ha] <;> assumption
 have hm0:0 ≤ mxOf w0 w1 w2:=by
  rcases mx_mem w0 w1 w2 with q | q | q <;> rw [q,absI_nat] <;> exact Int.natCast_nonneg _
 have hdiv:0 ≤ mxOf w0 w1 w2 / 2 ^ (bts (mxOf w0 w1 w2) * 2 / 3):=Int.ediv_nonneg hm0 (Int.le_of_lt (pow_pos' _))
 have hmu:bts (muchOf w0 w1 w2) ≤ p / 3 + 3:=by
  unfold muchOf
  have e1:bts (mxOf w0 w1 w2 / 2 ^ (bts (mxOf w0 w1 w2) * 2 / 3)) ≤ p / 3 + 2:=by
   apply bts_le' hdiv
   apply div_lt (pow_pos' _)
   rw [← Int.pow_add]
   exact lt_bts' (by lia)
  rw [Int.add_comm]
  exact bts_add e1 (bts_wk (by rw [bts1]; exact Nat.le_refl 1) (Nat.le_add_left 1 _))
 have hw:∀ j,bts (wAt [w0,w1,w2] j) ≤ p:=fun j => by
  match j with
  | 0 => exact h0
  | 1 => exact h1
  | 2 => exact h2
  | j + 3 => show bts 0 ≤ p; rw [bts_def]; simp
 have hc:∀ j,j < 3 → cdOf cs j < 8:=fun j hj => cdOf_lt hj
 have hpos:0 < muchOf w0 w1 w2:=by unfold muchOf; lia
 refine ⟨hm,hpos,fun s hs => ?_,fun k hk => ?_⟩
 ·rw [SUM_eq]
  have t:∀ j,j < 3 → bts (wAt [w0,w1,w2] j * CH (cdOf cs j) s) ≤ p + 4:=fun j hj => by
   exact le2 (bts_mul (wAt [w0,w1,w2] j) (CH (cdOf cs j) s)) (hw j) (ch_ok _ (hc j hj) s hs) (Nat.le_refl _)
  exact bts_add (bts_add (t 0 (by decide)) (t 1 (by decide))) (bts_wk (t 2 (by decide)) (Nat.le_succ _))
 ·have hs:=sh_bts _ (hc k hk)
  have hdue:bts (dueOf [w0,w1,w2] cs k) ≤ p + 2:=by
   unfold dueOf
   have t:∀ (e:Bool) (j:Nat),bts (if e = true then wAt [w0,w1,w2] j else 0) ≤ p:=fun e j => by
    cases e with
    | true => exact hw j
    | false => show bts 0 ≤ p; rw [bts_def]; simp
   exact bts_add (bts_add (t _ 0) (t _ 1)) (bts_wk (t _ 2) (Nat.le_succ _))
  have htot:bts (TOT [w0,w1,w2] cs (sortOf (cdOf cs k))) ≤ p + 7:=by
   rw [tot_due _ _ hk]
   exact le2 (bts_mul (shareOf (cdOf cs k)) (dueOf [w0,w1,w2] cs k)) hs hdue (Nat.le_of_eq (Nat.add_comm 5 (p + 2)))
  have hund:bts (undOf cs (muchOf w0 w1 w2) k) ≤ p / 3 + 8:=by
   unfold undOf
   exact le2 (bts_mul (shareOf (cdOf cs k)) (muchOf w0 w1 w2)) hs hmu (Nat.le_of_eq (Nat.add_comm 5 (p / 3 + 3)))
  have hu0:0 < undOf cs (muchOf w0 w1 w2) k:=Int.mul_pos (share_ok _ (hc k hk)).1 hpos
  have hrest:bts (restOf [w0,w1,w2] cs (muchOf w0 w1 w2) k) ≤ p / 3 + 8:=by
   refine Nat.le_trans (bts_mono ?_) hund
   unfold restOf
   exact natAbs_mono (Int.emod_nonneg _ (Int.ne_of_gt hu0)) (Int.le_of_lt (Int.emod_lt_of_pos _ hu0))
  have hmul:=bts_mul (TOT [w0,w1,w2] cs (sortOf (cdOf cs k))) (muchOf w0 w1 w2)
  have h3:p / 3 ≤ 349558:=Nat.le_trans (Nat.div_le_div_right hp) (by decide)
  have hmu':bts (muchOf w0 w1 w2) ≤ 349561:=Nat.le_trans hmu (Nat.add_le_add_right h3 3)
  have htot':=Nat.le_trans htot (Nat.add_le_add_right hp 7)
  refine ⟨Nat.le_trans (Nat.add_le_add hs hmu') (by decide),Nat.le_trans (Nat.add_le_add htot' hmu') (by decide),?_,Nat.le_trans hund (Nat.le_trans (Nat.add_le_add_right h3 8) (by decide))⟩
  unfold overOf
  exact Nat.le_trans (bts_add (p:=2 ^ 20 + 107 + 349561) (Nat.le_trans hmul (Nat.add_le_add htot' hmu')) (Nat.le_trans hrest (Nat.le_trans (Nat.add_le_add_right h3 8) (by decide)))) (by decide)
theorem plain' {zs:List Int} {p:Nat} (hp:p ≤ 2 ^ 20) (hl:zs.length ≤ 63) (hb:∀ c ∈ zs,bts c ≤ p):callI (ev GP0 300) fi347 [.lst (zs.map .int)] [] = some (.bool true,[]):=by
 show callI (ev GP0 300) fi347 [.lst (iavs zs)] [] = some (.bool true,[])
 refine callI_of ⟨by rfl,by rfl,by rfl,by rfl⟩ ?_
 rw [vs347]
 have hM:∀ c ∈ zs,c.natAbs ≤ 2 ^ p:=fun c hc => Nat.le_of_lt (Nat.lt_of_lt_of_le (lt_bts c) (Nat.pow_le_pow_right (by decide) (hb c hc)))
 refine segA (f:=200) hl hM fun c0 c1 c2 hc => ?_
 have hbc:∀ c ∈ [c0,c1,c2],bts c ≤ p + 7:=fun c h => by
  apply bts_le
  have h1:=hc c h
  have h2:zs.length * 2 ^ p ≤ 63 * 2 ^ p:=Nat.mul_le_mul_right _ hl
  have h3:1 ≤ 2 ^ p:=Nat.one_le_two_pow
  rw [Nat.pow_add,Nat.mul_comm]
  refine Nat.lt_of_le_of_lt (Nat.le_trans h1 (Nat.add_le_add (Nat.le_mul_of_pos_right 42 h3) h2)) ?_
  rw [← Nat.add_mul]
  exact Nat.mul_lt_mul_of_pos_right (by decide) h3
 have b0:=hbc c0 (by simp)
 have b1:=hbc c1 (by simp)
 have b2:=hbc c2 (by simp)
 have w0:bts (c0 / 8) ≤ p + 7:=bts_wk (bts_mono (Int.natAbs_ediv_le_natAbs _ _)) b0
 have w1:bts (c1 / 7) ≤ p + 7:=bts_wk (bts_mono (Int.natAbs_ediv_le_natAbs _ _)) b1
 have w2:bts (c2 / 6) ≤ p + 7:=bts_wk (bts_mono (Int.natAbs_ediv_le_natAbs _ _)) b2
 have hlow:=lowOf_lt c0 c1 c2
 have hbh:=bhOf_lt c0 c1 c2
 obtain ⟨z1,z2,z3,z4⟩:=sizes (cs:=[c0,c1,c2]) w0 w1 w2 (Nat.le_trans (Nat.add_le_add_right hp 7) (by decide))
 have hit:=itsB_ok [c0,c1,c2]
 have hil:=itsB_len [c0,c1,c2]
 refine segB (f:=200) hlow hbh rfl fun k row typed lead counts bent flags passed text tail hj => ?_
 refine segC (f:=200) (ws:=[c0 / 8,c1 / 7,c2 / 6]) hlow hit (by omega) rfl (fun w hw => ?_) hj fun tail a b hj ha hb hta htb => ?_
 ·have:bts w ≤ p + 7:=by
   rcases List.mem_cons.mp hw with rfl | hw
   ·exact w0
   ·rcases List.mem_cons.mp hw with rfl | hw
    ·exact w1
    ·rw [List.mem_singleton.mp hw]; exact w2
  exact Nat.le_trans this (Nat.le_trans (Nat.add_le_add_right hp 7) (by decide))
 refine segD (f:=200) (Nat.le_trans z1 (Nat.le_trans (Nat.add_le_add_right hp 7) (by decide))) ?_
 exact segE (f:=100) (b0:=bhOf c0 c1 c2) (N1:=2097151) ha hb hta htb (.inl rfl) (fun s hs => Nat.le_trans (z3 s hs) (Nat.le_trans (Nat.add_le_add_right (Nat.add_le_add_right hp 7) 6) (by decide))) z2 (by decide) z4
theorem plain:PlainLaw:=by
 intro zs hl hlay
 exact ⟨[],plain' (p:=1048576) (by decide) hl fun c hc => PyData.bits_item_of_ints hlay hc⟩
theorem done:PySem.Challenge.rw_uc0061_01.Holds:=law_of plain
end Mine
theorem PySem.Challenge.cw_uc0061_01_holds : PySem.Challenge.rw_uc0061_01.Holds := by
  exact Mine.done
