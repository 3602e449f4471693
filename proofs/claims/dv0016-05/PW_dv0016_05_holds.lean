import PyProof.Rows.All
import Wide.All
import OpenK.KMake
import OpenK.KWalk
import OpenK.KCall
import OpenK.KDescr
import OpenK.KFacts
import Open.FastT9
import Wide.FinOn
import Open.Line
import Lean
import PySem.Challenge.RW_dv0016_05
open PySem PySem.W PyProof.Rows
set_option genSizeOf false
set_option Elab.async false
set_option linter.unusedVariables false
set_option tactic.hygienic false
set_option compiler.extract_closed false
local macro_rules | `(tactic| grows_one) => `(tactic| first | with_reducible assumption | exact Nat.le_of_lt (by assumption) | exact Nat.lt_of_lt_of_le (by assumption) (by decide) | exact Nat.le_trans (by assumption) (by decide) | exact Nat.lt_of_lt_of_le (by assumption) (Nat.le_trans (by assumption) (by decide)) | exact Nat.lt_succ_of_lt (by assumption) | exact Nat.le_succ_of_le (by assumption) | omega)
local macro_rules | `(tactic| dict_keeps) => `(tactic| first | with_reducible assumption | exact Nat.le_of_lt (by assumption) | exact Nat.lt_of_lt_of_le (by assumption) (by decide) | exact Nat.le_trans (by assumption) (by decide) | exact Nat.lt_of_lt_of_le (by assumption) (Nat.le_trans (by assumption) (by decide)) | exact Nat.lt_succ_of_lt (by assumption) | exact Nat.le_succ_of_le (by assumption) | lia | omega)
open PySem.Calls
set_option maxRecDepth 100000
namespace Mine
section
open PySem PySem.W PyProof.Rows
theorem dNS {α:Type} {x:α} {P:Prop} (h:none = some x):P:=nomatch h
theorem dSN {α:Type} {x:α} {P:Prop} (h:some x = none):P:=nomatch h
theorem nDF {o:Obj} {vs:Array Value} (h:o.data = .fields vs):∀ es ep,o.data≠.dict es ep:=fun o9 o9 z=>nomatch h.symm.trans z
theorem nSF {o:Obj} {vs:Array Value} (h:o.data = .fields vs):∀ es ep,o.data≠.seq es ep:=fun o9 o9 z=>nomatch h.symm.trans z
theorem nCF {o:Obj} {vs:Array Value} (h:o.data = .fields vs):∀ v,o.data≠.cell v:=fun o9 z=>nomatch h.symm.trans z
theorem nDS {o:Obj} {vs:Array Value} {m:Nat} (h:o.data = .seq vs m):∀ es ep,o.data≠.dict es ep:=fun o9 o9 z=>nomatch h.symm.trans z
theorem nCS {o:Obj} {vs:Array Value} {m:Nat} (h:o.data = .seq vs m):∀ v,o.data≠.cell v:=fun o9 z=>nomatch h.symm.trans z
theorem nSD {o:Obj} {vs:Array DictEntry} {m:Nat} (h:o.data = .dict vs m):∀ es ep,o.data≠.seq es ep:=fun o9 o9 z=>nomatch h.symm.trans z
theorem nCD {o:Obj} {vs:Array DictEntry} {m:Nat} (h:o.data = .dict vs m):∀ v,o.data≠.cell v:=fun o9 z=>nomatch h.symm.trans z
abbrev Fz:=Addr→Option Obj
noncomputable def PL (o:Obj):Prop:=o.cls = .type "list"∧o.dict = none∧o.slots = #[]
noncomputable def PT (o:Obj):Prop:=o.cls = .type "tuple"∧o.dict = none∧o.slots = #[]
inductive SeqAt (P:Obj→Prop) (Φ:Fz) (Rs:List Value→Prop) (v:Value):Prop
 | mk (a:Addr) (o:Obj) (vs:Array Value) (n:Nat) (e:v = .ref a) (h1:Φ a = some o) (h2:P o) (h3:o.data = .seq vs n) (h4:Rs vs.toList)
mutual
noncomputable def RepP (Φ:Fz):PyData→Value→Prop
 | .none,v=>v = .none
 | .bool b,v=>v = .bool b
 | .int i,v=>∃ t,v = .int i t
 | .str s,v=>∃ t,v = .str s t
 | .tuple l,v=>SeqAt PT Φ (fun vs=>Reps Φ l vs) v
 | .list l,v=>SeqAt PL Φ (fun vs=>Reps Φ l vs) v
 | .dict _,_=>False
noncomputable def Reps (Φ:Fz):List PyData→List Value→Prop
 | [],vs=>vs = []
 | d :: l,vs=>∃ v r,vs = v :: r∧RepP Φ d v∧Reps Φ l r
end
inductive D where
 | py (d:PyData)
 | ref (a:Addr)
 | fn (v:Value)
 | rng (a b c:Int)
 | exc (cls:Value) (ds:List PyData)
abbrev D.none:D:=.py .none
abbrev D.bool (b:Bool):D:=.py (.bool b)
abbrev D.int (i:Int):D:=.py (.int i)
abbrev D.str (s:Str):D:=.py (.str s)
abbrev D.tup (l:List PyData):D:=.py (.tuple l)
abbrev D.lst (l:List PyData):D:=.py (.list l)
inductive Of {α σ:Type} (A:α→Prop) (Q:α→σ→Prop) (S:σ):Prop
 | mk (a:α) (h:A a) (q:Q a S)
inductive IsD {α σ:Type} (enc:α→D) (Q:α→σ→Prop) (d:D) (S:σ):Prop
 | mk (a:α) (e:d = enc a) (q:Q a S)
inductive AsL {σ:Type} (Q:List PyData→σ→Prop) (ds:List D) (S:σ):Prop
 | mk (l:List PyData) (e:ds = l.map D.py) (h:l.length≤sizeLine) (q:Q l S)
inductive SzL {σ:Type} (Q:List PyData→σ→Prop) (d:D) (S:σ):Prop
 | mk (ds:List PyData) (e:d = .lst ds) (h:ds.length≤sizeLine) (q:Q ds S)
noncomputable def Rep (Φ:Fz):D→Value→Prop
 | .py d,v=>RepP Φ d v
 | .ref a,v=>v = .ref a
 | .fn u,v=>v = u
 | .exc cls ds,v=>∃ a o vs t,v = .ref a∧Φ a = some o∧o.cls = cls∧o.data = .fields vs∧vs[0]? = some (.ref t)∧RepP Φ (.tuple ds) (.ref t)
 | .rng a b c,v=>∃ r t₁ t₂ t₃,v = .ref r∧Φ r = some { cls:=.type "range",data:=.fields #[.int a t₁,.int b t₂,.int c t₃] }
noncomputable def Le (Φ Φ':Fz):Prop:=∀ a o,Φ a = some o→Φ' a = some o
theorem Le.refl (Φ:Fz):Le Φ Φ:=fun o9 o9 e=>e
theorem Le.trans {Φ₁ Φ₂ Φ₃:Fz} (x:Le Φ₁ Φ₂) (y:Le Φ₂ Φ₃):Le Φ₁ Φ₃:=fun a o e=>y a o (x a o e)
theorem lookup_cons_ne {α:Type} {x y:Str} {sl:α} {ρ:List (Str×α)} (h:y≠x):List.lookup y ((x,sl) :: ρ) = List.lookup y ρ:=by
 rw [List.lookup_cons,beq_false_of_ne h]
theorem lookup_cons_self {α:Type} {x:Str} {sl:α} {ρ:List (Str×α)}:List.lookup x ((x,sl) :: ρ) = some sl:=by
 rw [List.lookup_cons,beq_self_eq_true]
theorem lookup_cases {α:Type} {x n:Str} {a c:α} {l:List (Str×α)} (h:List.lookup x ((n,a) :: l) = some c):(x = n∧a = c)∨(x≠n∧l.lookup x = some c):=by
 by_cases q:x = n
 ·subst q; rw [lookup_cons_self] at h; exact .inl ⟨rfl,Option.some.inj h⟩
 ·rw [lookup_cons_ne q] at h; exact .inr ⟨q,h⟩
theorem lookup_isSome {α:Type} {x n:Str} {a:α} {l:List (Str×α)} (h:(l.lookup x).isSome):(List.lookup x ((n,a) :: l)).isSome:=by
 by_cases q:x = n
 ·subst q; rw [lookup_cons_self]; rfl
 ·rw [lookup_cons_ne q]; exact h
mutual
theorem RepP.mono {Φ Φ':Fz} (le:Le Φ Φ'):∀ {d:PyData} {v:Value},RepP Φ d v→RepP Φ' d v
 | .none,_,h | .bool _,_,h | .int _,_,h | .str _,_,h | .dict _,_,h=>h
 | .tuple l,v,h=>by
  obtain ⟨a,o,vs,n,h1,h2,h3,h4,h5⟩:=h
  exact ⟨a,o,vs,n,h1,le _ _ h2,h3,h4,Reps.mono le h5⟩
 | .list l,v,h=>by
  obtain ⟨a,o,vs,n,h1,h2,h3,h4,h5⟩:=h
  exact ⟨a,o,vs,n,h1,le _ _ h2,h3,h4,Reps.mono le h5⟩
theorem Reps.mono {Φ Φ':Fz} (le:Le Φ Φ'):∀ {l:List PyData} {vs:List Value},Reps Φ l vs→Reps Φ' l vs
 | [],_,h=>h
 | d :: l,vs,h=>by
  obtain ⟨v,r,h1,h2,h3⟩:=h
  exact ⟨v,r,h1,RepP.mono le h2,Reps.mono le h3⟩
end
theorem Rep.mono {Φ Φ':Fz} (le:Le Φ Φ') {d:D} {v:Value} (h:Rep Φ d v):Rep Φ' d v:=by
 cases d with
 | py d=>exact RepP.mono le h
 | ref a=>exact h
 | fn u=>exact h
 | rng a b c=>obtain ⟨r,t₁,t₂,t₃,h1,h2⟩:=h; exact ⟨r,t₁,t₂,t₃,h1,le _ _ h2⟩
 | exc c ds=>obtain ⟨a,o,vs,t,h1,h2,h3,h4,h5,h6⟩:=h; exact ⟨a,o,vs,t,h1,le _ _ h2,h3,h4,h5,RepP.mono le h6⟩
theorem Reps.length {Φ:Fz} {l:List PyData}:∀ {vs:List Value},Reps Φ l vs→vs.length = l.length:=by
 induction l with
 | nil=>intro vs h; cases (show vs = [] from h); rfl
 | cons d l ih=>intro vs h; obtain ⟨v,r,rfl,_,h3⟩:=h; exact congrArg (· + 1) (ih h3)
theorem Reps.append {Φ:Fz} {l₁ l₂:List PyData} {vs₂:List Value}:∀ {vs₁:List Value},Reps Φ l₁ vs₁→Reps Φ l₂ vs₂→Reps Φ (l₁ ++ l₂) (vs₁ ++ vs₂):=by
 induction l₁ with
 | nil=>intro vs h h'; cases (show vs = [] from h); exact h'
 | cons d l ih=>intro vs h h'; obtain ⟨v,r,rfl,h2,h3⟩:=h; exact ⟨v,_,rfl,h2,ih h3 h'⟩
theorem Reps.one {Φ:Fz} {d:PyData} {v:Value} (h:RepP Φ d v):Reps Φ [d] [v]:=by
 exact ⟨v,[],rfl,h,rfl⟩
theorem Reps.get {Φ:Fz} {l:List PyData}:∀ {vs:List Value} {i:Nat} {d:PyData},Reps Φ l vs→l[i]? = some d→∃ v,vs[i]? = some v∧RepP Φ d v:=by
 induction l with
 | nil=>intro vs i d h e; exact dNS e
 | cons d l ih =>
  intro vs i d' h e
  obtain ⟨v,r,rfl,h2,h3⟩:=h
  cases i with
  | zero=>exact ⟨v,rfl,Option.some.inj e ▸ h2⟩
  | succ i=>exact ih (vs:=r) (i:=i) h3 e
mutual
theorem RepP.reads {Φ:Fz} {h:Heap} (hf:∀ a o,Φ a = some o→h.get? a = some o):∀ {d:PyData} {v:Value},RepP Φ d v→∃ as,Reads h v d as
 | .none,_,e=>by (first | subst e | (cases (show _ = _ from e))); exact ⟨_,.none⟩
 | .bool _,_,e=>by (first | subst e | (cases (show _ = _ from e))); exact ⟨_,.bool _⟩
 | .int _,_,e=>by obtain ⟨t,rfl⟩:=e; exact ⟨_,.int _ _⟩
 | .str _,_,e=>by obtain ⟨t,rfl⟩:=e; exact ⟨_,.str _ _⟩
 | .dict _,_,e=>(show False from e).elim
 | .tuple l,v,e=>by
  obtain ⟨a,o,vs,n,rfl,h2,h3,h4,h5⟩:=e
  obtain ⟨as,r⟩:=Reps.reads hf h5
  exact ⟨_,.tuple (hf _ _ h2) h3.1 h4 r⟩
 | .list l,v,e=>by
  obtain ⟨a,o,vs,n,rfl,h2,h3,h4,h5⟩:=e
  obtain ⟨as,r⟩:=Reps.reads hf h5
  exact ⟨_,.list (hf _ _ h2) h3.1 h4 r⟩
theorem Reps.reads {Φ:Fz} {h:Heap} (hf:∀ a o,Φ a = some o→h.get? a = some o):∀ {l:List PyData} {vs:List Value},Reps Φ l vs→∃ as,ReadsAll h vs l as
 | [],_,e=>by (first | subst e | (cases (show _ = _ from e))); exact ⟨_,.nil⟩
 | d :: l,vs,e=>by
  obtain ⟨v,r,rfl,h2,h3⟩:=e
  obtain ⟨as,x⟩:=RepP.reads hf h2
  obtain ⟨bs,y⟩:=Reps.reads hf h3
  exact ⟨_,.cons x y⟩
end
open PySem.Sem in
theorem nsSet_eq {M:Model} {Γ:Ctx} {E:Value→Pos→Shared→Prop} {p:Pos} {s:Shared} {a:Addr} {o:Obj} {es:Array DictEntry} {ep:Nat} (ho:s.heap.get? a = some o) (hd:o.data = .dict es ep) (hk:StrKeys es) (name:Str) (v:Value) (Q:Unit→Pos→Shared→Prop) :
  Sem.wp M Γ (nsSet a name v) Q E p s = Q () p { s with heap:=s.heap.update a (Obj.putName name (if name.cps.isEmpty then 0 else reduceHash (M.w.params.strHash name.cps)) (.str name s.toks) v),toks:=s.toks + 1 }:=by
 simp -iota only [nsSet,strHash,wp_bind',wp_cmd_ask,wp_pure',wp_cmd_mkText]
 rw [wp_loadPart_of M Γ E p { s with toks:=s.toks + 1 } (o:=o) _ ho]
 have hany:es.any (·.refKey) = false:=by
  rw [Array.any_eq_false']; intro e he; obtain ⟨n,t,h⟩:=hk e he; simp [DictEntry.refKey,h]
 have hno:aRefKeyMayBeTheName name es = false:=by rw [aRefKeyMayBeTheName_eq,aRefKeyMayBeTheNameByArray,hany,Bool.and_false]
 rw [hd]
 dsimp only
 rw [hno,if_neg Bool.false_ne_true,wp_cmd_updatePart,ho]
 exact propext ⟨fun h=>h.2,fun h=>⟨rfl,h⟩⟩
noncomputable def FrO (o:Obj):Prop:=o.cls = .type "frame"∧∃ es ep,o.data = .dict es ep
set_option tactic.hygienic true in
theorem putName_cls {name:Str} {h:Int} {k v:Value} (o:Obj):(Obj.putName name h k v o).cls = o.cls:=by
 rw [Obj.putName_eq]; obtain ⟨c,d,da,sl⟩:=o
 cases da
 case dict es ep =>
  unfold Obj.putNameByArray
  dsimp only
  cases es.findIdx? _ with
  | none=>rfl
  | some i=>rfl
 all_goals rfl
theorem nsSet_keeps {M:Model} {A:Around} {E:Value→Shared→Prop} {s:Shared} {a:Addr} {m:Str→Option Value} {name:Str} {v:Value} {Q:Unit→Shared→Prop} (hn:s.heap.Ns a m)
  (h:∀ h',h'.Ns a (fun x=>if x = name then some v else m x)→Heap.SameBut a s.heap h'→(∀ o,s.heap.get? a = some o→∃ o',h'.get? a = some o'∧o'.cls = o.cls)→Q () { s with heap:=h',toks:=s.toks + 1 }) :
  wpAny M A (nsSet a name v) Q E s:=fun Γ p o9=>by
 have hn':=hn
 obtain ⟨o,es,ep,ho,hd,hk,_⟩:=hn'
 rw [nsSet_eq ho hd hk]
 have z:=Sem.wp_nsSet M Γ (fun o9 o9 o9=>False) p s hn name v (fun o9 o9 s'=>s'.heap.Ns a (fun x=>if x = name then some v else m x)∧Heap.SameBut a s.heap s'.heap) (fun h' h1 h2=>⟨h1,h2⟩)
 rw [nsSet_eq ho hd hk] at z
 refine h _ z.1 z.2 fun o₁ ho₁=>?_
 rw [ho] at ho₁; (first | exact dNS ho₁ | exact dSN ho₁ | (obtain rfl:=Option.some.inj ho₁) | cases ho₁)
 obtain ⟨o',es',ep',ho',hd',_⟩:=z.1
 have q:=Heap.get?_update_self (Obj.putName name (if name.cps.isEmpty then 0 else reduceHash (M.w.params.strHash name.cps)) (.str name s.toks) v) ho (by
  rw [Obj.putName_eq]; obtain ⟨c,d,da,sl⟩:=o
  dsimp only at hd; subst hd
  simp only [Obj.putNameByArray]
  split <;> rfl)
 exact ⟨_,q,putName_cls o⟩
structure Step (W:Addr→Prop) (Φ:Fz) (s:Shared) (Φ':Fz) (s':Shared):Prop where
 gens:s'.gens = s.gens
 os:s'.os = s.os
 keep:∀ a o,s.heap.get? a = some o→∃ o',s'.heap.get? a = some o'∧(¬ W a→o' = o∨(o.cls = .type "frame"∧∃ sl,o' = { o with slots:=sl }))
 le:Le Φ Φ'
 new:∀ a,Φ a = none→Φ' a≠none→s.heap.get? a = none∨W a
 froz:∀ a o,Φ' a = some o→s'.heap.get? a = some o
 fr:∀ a o,s.heap.get? a = some o→FrO o→∃ o',s'.heap.get? a = some o'∧FrO o'
theorem Step.trans {W:Addr→Prop} {W':Addr→Prop} {Φ₁ Φ₂ Φ₃:Fz} {s₁ s₂ s₃:Shared} (x:Step W Φ₁ s₁ Φ₂ s₂) (y:Step W' Φ₂ s₂ Φ₃ s₃)
  (hw:∀ a,W' a→W a∨s₁.heap.get? a = none):Step W Φ₁ s₁ Φ₃ s₃ where
 gens:=y.gens.trans x.gens
 os:=y.os.trans x.os
 keep:=fun a o e=>by
  obtain ⟨o₁,e₁,h₁⟩:=x.keep a o e
  obtain ⟨o₂,e₂,h₂⟩:=y.keep a o₁ e₁
  refine ⟨o₂,e₂,fun hW=>?_⟩
  have hW':¬ W' a:=fun q=>(hw a q).elim hW (fun q=>by rw [e] at q; (first | exact dNS q | exact dSN q | (obtain rfl:=Option.some.inj q) | cases q))
  rcases h₁ hW with rfl | ⟨c,sl,rfl⟩
  ·exact h₂ hW'
  ·rcases h₂ hW' with rfl | ⟨_,sl',rfl⟩
   ·exact .inr ⟨c,sl,rfl⟩
   ·exact .inr ⟨c,sl',rfl⟩
 le:=x.le.trans y.le
 new:=fun a e n=>by
  cases q:Φ₂ a with
  | none =>
   rcases y.new a q n with this | this
   ·left
    cases r:s₁.heap.get? a with
    | none=>rfl
    | some o=>obtain ⟨o',e',_⟩:=x.keep a o r; rw [this] at e'; (first | exact dNS e' | exact dSN e' | (obtain rfl:=Option.some.inj e') | cases e')
   ·exact (hw a this).symm
  | some o=>exact x.new a e (by rw [q]; exact fun z=>by cases z)
 froz:=y.froz
 fr:=fun a o e f=>let ⟨o₁,e₁,f₁⟩:=x.fr a o e f; y.fr a o₁ e₁ f₁
theorem Step.refl {W:Addr→Prop} {Φ:Fz} {s:Shared} (h:∀ a o,Φ a = some o→s.heap.get? a = some o):Step W Φ s Φ s :=
 ⟨rfl,rfl,fun o9 o e=>⟨o,e,fun o9=>.inl rfl⟩,Le.refl _,fun o9 e n=>absurd e n,h,fun o9 o e f=>⟨o,e,f⟩⟩
theorem Step.weaken {W W':Addr→Prop} {Φ Φ':Fz} {s s':Shared} (x:Step W Φ s Φ' s') (hw:∀ a,W a→W' a):Step W' Φ s Φ' s' :=
 ⟨x.gens,x.os,fun a o e=>let ⟨o',e',h⟩:=x.keep a o e; ⟨o',e',fun n=>h fun q=>n (hw a q)⟩,x.le,fun a e n=>(x.new a e n).imp id (hw a),x.froz,x.fr⟩
noncomputable def NoW:Addr→Prop:=fun o9=>False
theorem Step.of_keeps {Φ:Fz} {s:Shared} {h':Heap} {tk:Nat} {dr:Drawn} (hf:∀ a o,Φ a = some o→s.heap.get? a = some o) (hk:∀ b o,s.heap.get? b = some o→h'.get? b = some o) :
  Step NoW Φ s Φ { s with heap:=h',toks:=tk,drawn:=dr } :=
 ⟨rfl,rfl,fun a o e=>⟨o,hk a o e,fun o9=>.inl rfl⟩,Le.refl _,fun o9 e n=>absurd e n,fun a o e=>hk a o (hf a o e),fun a o e f=>⟨o,hk a o e,f⟩⟩
open Classical in
noncomputable def Fz.add (Φ:Fz) (a:Addr) (o:Obj):Fz:=fun b=>if b = a then some o else Φ b
theorem Fz.add_self (Φ:Fz) (a:Addr) (o:Obj):(Φ.add a o) a = some o:=by simp [Fz.add]
theorem Fz.le_add {Φ:Fz} {a:Addr} {o:Obj} (h:Φ a = none):Le Φ (Φ.add a o):=fun b o' e=>by
 simp only [Fz.add]
 by_cases q:b = a
 ·subst q; rw [h] at e; (first | exact dNS e | exact dSN e | (obtain rfl:=Option.some.inj e) | cases e)
 ·simp [q,e]
theorem Step.of_keeps_new {Φ:Fz} {s:Shared} {h':Heap} {tk:Nat} {dr:Drawn} {a:Addr} {o:Obj} (hf:∀ a o,Φ a = some o→s.heap.get? a = some o)
  (hk:∀ b o,s.heap.get? b = some o→h'.get? b = some o) (hn:s.heap.get? a = none) (ha:h'.get? a = some o) :
  Step NoW Φ s (Φ.add a o) { s with heap:=h',toks:=tk,drawn:=dr } :=
 have hΦ:Φ a = none:=by
  cases q:Φ a with
  | none=>rfl
  | some o'=>rw [hf a o' q] at hn; (first | exact dNS hn | exact dSN hn | (obtain rfl:=Option.some.inj hn) | cases hn)
 ⟨rfl,rfl,fun b o' e=>⟨o',hk b o' e,fun o9=>.inl rfl⟩,Fz.le_add hΦ,fun b e n=>by
   simp only [Fz.add] at n
   by_cases q:b = a
   ·subst q; exact .inl hn
   ·simp [q] at n; exact absurd e n,
  fun b o' e=>by
   simp only [Fz.add] at e
   by_cases q:b = a
   ·subst q; simp at e; subst e; exact ha
   ·simp [q] at e; exact hk b o' (hf b o' e),fun a o e f=>⟨o,hk a o e,f⟩⟩
set_option genInjectivity false in
inductive There (Φ:Fz) (h:Heap) (a:Addr):Prop
 | mk (no:Φ a = none) (o:Obj) (ho:h.get? a = some o) (nf:o.cls≠.type "frame")
theorem There.no' {Φ:Fz} {h:Heap} {a:Addr} (x:There Φ h a):Φ a = none:=by cases x; assumption
structure Rsc where
 σ:Type
 fp:σ→Addr→Prop
 ok:σ→Fz→Heap→Prop
 stable:∀ {S Φ Φ' h h'},ok S Φ h→(∀ a o,h.get? a = some o→fp S a→h'.get? a = some o)→Le Φ Φ'→(∀ a,fp S a→Φ' a = none)→ok S Φ' h'
 there:∀ {S Φ h a},ok S Φ h→fp S a→There Φ h a
noncomputable def GlobOf (mg mb:Str→Option Value) (x:Str) (v:Value):Prop:=mg x = some v∨(mg x = none∧mb x = some v)
set_option genInjectivity false in
structure Kx where
 prog:Program
 w:World
 B:Heap
 mg:Str→Option Value
 mb:Str→Option Value
 gl:Str→Option Value
 glOk:∀ x v,gl x = some v→GlobOf mg mb x v
 gB:B.Ns mainGlobals mg
 bB:B.Ns builtinsNs mb
 lim:B.NoLimit
 kf:Frag
 kfB:kf.In B
abbrev Kx.M (K:Kx):Model:=model K.prog K.w
set_option genInjectivity false in
inductive Slot where
 | val (d:D)
 | own (ds:List PyData)
abbrev Rho:=List (Str×Slot)
noncomputable def GlobIs (K:Kx) (x:Str) (v:Value):Prop:=GlobOf K.mg K.mb x v
noncomputable def VarIs (K:Kx) (env:Env) (h:Heap) (x:Str) (v:Value):Prop :=
 (env.kindOf x = some .local∧∃ m,h.Ns env.locals m∧m x = some v) ∨
 ((env.kindOf x = some .cell∨(env.kindOf x = some .free∧(x == ("__classdict__":Str)) = false))∧∃ c,env.cells.lookup x = some c∧h.IsCell c (some v)) ∨
 (env.kindOf x = some .globalImplicit∧GlobIs K x v)
inductive LstAt (Φ:Fz) (h:Heap) (a:Addr) (ds:List PyData):Prop
 | mk (o:Obj) (vs:Array Value) (n:Nat) (ho:h.get? a = some o) (hp:PL o) (hd:o.data = .seq vs n) (hr:Reps Φ ds vs.toList)
inductive Owns (Φ:Fz) (h:Heap) (a:Addr) (ds:List PyData):Prop
 | mk (fresh:Φ a = none) (o:Obj) (vs:Array Value) (n:Nat) (ho:h.get? a = some o) (hp:PL o) (hd:o.data = .seq vs n) (hr:Reps Φ ds vs.toList)
theorem Owns.lstAt {Φ:Fz} {h:Heap} {a:Addr} {ds:List PyData} (x:Owns Φ h a ds):LstAt Φ h a ds:=by cases x with | mk f o vs n h1 h2 h3 h4=>exact ⟨o,vs,n,h1,h2,h3,h4⟩
inductive FrAt (K:Kx) (Φ:Fz) (s:Shared) (e:Env):Prop
 | mk (h1:e.scope.kind≠.module) (L:Addr) (o:Obj) (h2:e.frame = some L) (h3:K.B.get? L = none) (h4:Φ L = none) (h5:s.heap.get? L = some o) (h6:FrO o)
noncomputable def FrsOk (K:Kx) (fs:List Env) (Φ:Fz) (s:Shared):Prop:=∀ e∈fs,FrAt K Φ s e
theorem FrsOk.step {K:Kx} {fs:List Env} {W:Addr→Prop} {Φ Φ':Fz} {s s':Shared} (h:FrsOk K fs Φ s) (st:Step W Φ s Φ' s') (hW:∀ a o,s.heap.get? a = some o→FrO o→Φ' a≠none→Φ a = none→¬ W a):FrsOk K fs Φ' s':=fun e he=>by
 obtain ⟨h1,L,o,h2,h3,h3',h4,h5⟩:=h e he
 obtain ⟨o',h6,h7⟩:=st.fr L o h4 h5
 refine ⟨h1,L,o',h2,h3,?_,h6,h7⟩
 cases q:Φ' L with
 | none=>rfl
 | some z =>
  rcases st.new L h3' (by rw [q]; exact fun z=>by cases z) with z | z
  ·rw [h4] at z; (first | exact dNS z | exact dSN z | (obtain rfl:=Option.some.inj z) | cases z)
  ·exact absurd z (hW L o h4 h5 (by rw [q]; exact fun z=>by cases z) h3')
set_option genInjectivity false in
structure Ent where
 s:Shared
 Φ:Fz
 W:Addr→Prop
 mine:Str→Bool
 fs:List Env
structure CelAt (R:Rsc) (S:R.σ) (Φ:Fz) (s:Shared) (c:Addr):Prop where
 cell:∃ v,s.heap.IsCell c v
 no:Φ c = none∧¬ R.fp S c
theorem CelAt.nfp {R:Rsc} {S:R.σ} {Φ:Fz} {s:Shared} {c:Addr} (x:CelAt R S Φ s c):¬ R.fp S c:=x.no.2
inductive ValAt (K:Kx) (env:Env) (Φ:Fz) (s:Shared) (x:Str) (d:D):Prop
 | mk (v:Value) (var:VarIs K env s.heap x v) (rep:Rep Φ d v)
structure OwnAt (K:Kx) (R:Rsc) (G:Ent) (env:Env) (S:R.σ) (Φ:Fz) (s:Shared) (x:Str) (ds:List PyData) (a:Addr):Prop where
 var:VarIs K env s.heap x (.ref a)
 own:Owns Φ s.heap a ds
 nfp:¬ R.fp S a
 new:G.s.heap.get? a = none
structure Inv (K:Kx) (R:Rsc) (G:Ent) (sc:Scope) (env:Env) (ρ:Rho) (S:R.σ) (Φ:Fz) (s:Shared):Prop where
 base:∀ a o,K.B.get? a = some o→Φ a = some o
 froz:∀ a o,Φ a = some o→s.heap.get? a = some o
 scp:env.scope = sc
 kind:sc.kind = .function
 globs:env.globals = mainGlobals
 blts:env.builtins = builtinsNs
 ns:∃ m,s.heap.Ns env.locals m
 nsΦ:Φ env.locals = none
 nsW:¬ R.fp S env.locals
 nsG:G.s.heap.get? env.locals = none
 cel:∀ x c,env.cells.lookup x = some c→CelAt R S Φ s c
 celG:∀ x c,G.mine x = true→env.cells.lookup x = some c→G.s.heap.get? c = none
 celA:∀ x,sc.names.lookup x = some .cell∨sc.names.lookup x = some .free→∃ c,env.cells.lookup x = some c
 celD:∀ x y c,env.cells.lookup x = some c→env.cells.lookup y = some c→x = y
 vals:∀ x d,ρ.lookup x = some (.val d)→ValAt K env Φ s x d
 owns:∃ ad:Str→Addr,(∀ x ds,ρ.lookup x = some (.own ds)→OwnAt K R G env S Φ s x ds (ad x)) ∧
  ∀ x y ds es,ρ.lookup x = some (.own ds)→ρ.lookup y = some (.own es)→x≠y→ad x≠ad y
 rsc:R.ok S Φ s.heap
 step0:Step G.W G.Φ G.s Φ s
 fpG:∀ a,R.fp S a→G.W a∨G.s.heap.get? a = none
 frs:FrsOk K G.fs Φ s
theorem Ns.of_step {W:Addr→Prop} {Φ Φ':Fz} {s s':Shared} {L:Addr} {m:Str→Option Value} (x:Step W Φ s Φ' s') (hn:s.heap.Ns L m) (hL:¬ W L):s'.heap.Ns L m:=by
 obtain ⟨o,es,ep,ho,hd,r⟩:=hn
 obtain ⟨o',e',q⟩:=x.keep L o ho
 rcases q hL with rfl | ⟨_,sl,rfl⟩
 ·exact ⟨_,es,ep,e',hd,r⟩
 ·exact ⟨_,es,ep,e',hd,r⟩
theorem IsCell.of_step {W:Addr→Prop} {Φ Φ':Fz} {s s':Shared} {c:Addr} {v:Option Value} (x:Step W Φ s Φ' s') (hn:s.heap.IsCell c v) (hL:¬ W c):s'.heap.IsCell c v:=by
 obtain ⟨o,ho,hd⟩:=hn
 obtain ⟨o',e',q⟩:=x.keep c o ho
 rcases q hL with rfl | ⟨_,sl,rfl⟩
 ·exact ⟨_,e',hd⟩
 ·exact ⟨_,e',hd⟩
theorem Step.noneΦ {W:Addr→Prop} {Φ Φ':Fz} {s s':Shared} {a:Addr} {o:Obj} (x:Step W Φ s Φ' s') (h:Φ a = none) (ho:s.heap.get? a = some o) (hW:¬ W a):Φ' a = none:=by
 cases q:Φ' a with
 | none=>rfl
 | some z =>
  rcases x.new a h (by rw [q]; exact fun z=>by cases z) with this | this
  ·rw [ho] at this; (first | exact dNS this | exact dSN this | (obtain rfl:=Option.some.inj this) | cases this)
  ·exact absurd this hW
theorem Owns.of_step {W:Addr→Prop} {Φ Φ':Fz} {s s':Shared} {a:Addr} {ds:List PyData} (x:Step W Φ s Φ' s') (h:Owns Φ s.heap a ds) (ha:¬ W a):Owns Φ' s'.heap a ds:=by
 obtain ⟨f,o,vs,n,ho,hc,hd,hr⟩:=h
 obtain ⟨o',e',q⟩:=x.keep a o ho
 rcases q ha with rfl | ⟨hf,_⟩
 ·exact ⟨x.noneΦ f ho ha,_,vs,n,e',hc,hd,hr.mono x.le⟩
 ·rw [hc.1] at hf; exact absurd hf (by decide)
theorem VarIs.of_step {K:Kx} {W:Addr→Prop} {Φ Φ':Fz} {s s':Shared} {env:Env} {x:Str} {v:Value} (st:Step W Φ s Φ' s') (h:VarIs K env s.heap x v)
  (hl:¬ W env.locals) (hc:∀ x c,env.cells.lookup x = some c→¬ W c):VarIs K env s'.heap x v:=by
 rcases h with ⟨hk,m,hn,hm⟩ | ⟨hk,c,h1,h2⟩ | h
 ·exact .inl ⟨hk,m,Ns.of_step st hn hl,hm⟩
 ·exact .inr (.inl ⟨hk,c,h1,IsCell.of_step st h2 (hc _ _ h1)⟩)
 ·exact .inr (.inr h)
noncomputable def FpLe (R:Rsc) (S:R.σ) (s:Shared) (S':R.σ):Prop:=∀ a,R.fp S' a→R.fp S a∨s.heap.get? a = none
theorem FpLe.refl {R:Rsc} {S:R.σ} {s:Shared}:FpLe R S s S:=fun o9 h=>.inl h
theorem FpLe.not {R:Rsc} {S S':R.σ} {s:Shared} {a:Addr} {o:Obj} (f:FpLe R S s S') (h:¬ R.fp S a) (ho:s.heap.get? a = some o):¬ R.fp S' a:=fun q =>
 (f a q).elim h fun z=>by rw [ho] at z; (first | exact dNS z | exact dSN z | (obtain rfl:=Option.some.inj z) | cases z)
theorem FpLe.trans {R:Rsc} {S S' S'':R.σ} {W:Addr→Prop} {Φ Φ':Fz} {s s':Shared} (x:FpLe R S s S') (st:Step W Φ s Φ' s') (y:FpLe R S' s' S''):FpLe R S s S'':=fun a h=>by
 rcases y a h with h | h
 ·exact x a h
 ·refine .inr ?_
  cases q:s.heap.get? a with
  | none=>rfl
  | some o=>obtain ⟨o',e,_⟩:=st.keep a o q; rw [h] at e; (first | exact dNS e | exact dSN e | (obtain rfl:=Option.some.inj e) | cases e)
theorem Inv.step {K:Kx} {R:Rsc} {G:Ent} {sc:Scope} {env:Env} {ρ:Rho} {S S':R.σ} {Φ Φ':Fz} {s s':Shared} (I:Inv K R G sc env ρ S Φ s) (st:Step (R.fp S) Φ s Φ' s') (f:FpLe R S s S') (ok:R.ok S' Φ' s'.heap) :
  Inv K R G sc env ρ S' Φ' s':=by
 obtain ⟨m,hm⟩:=I.ns
 have hm0:=hm
 obtain ⟨om,_,_,hom,_⟩:=hm0
 have hc:∀ x c,env.cells.lookup x = some c→¬ R.fp S c:=fun x c h=>(I.cel x c h).nfp
 refine ⟨fun a o e=>st.le _ _ (I.base a o e),st.froz,I.scp,I.kind,I.globs,I.blts,⟨m,Ns.of_step st hm I.nsW⟩,st.noneΦ I.nsΦ hom I.nsW,f.not I.nsW hom,I.nsG,fun x c h=>?_,I.celG,I.celA,I.celD,fun x d h=>?_,?_,ok,I.step0.trans st I.fpG,fun a h=>?_,fun e he=>?_⟩
 ·obtain ⟨⟨v,oc,hoc,hd⟩,h2,h3⟩:=I.cel x c h
  exact ⟨⟨v,IsCell.of_step st ⟨oc,hoc,hd⟩ h3⟩,st.noneΦ h2 hoc h3,f.not h3 hoc⟩
 ·obtain ⟨v,h1,h2⟩:=I.vals x d h
  exact ⟨v,h1.of_step st I.nsW hc,h2.mono st.le⟩
 ·obtain ⟨ad,h1,h2⟩:=I.owns
  refine ⟨ad,fun x ds h=>?_,h2⟩
  obtain ⟨a1,a2,a3,a4⟩:=h1 x ds h
  obtain ⟨_,o,_,_,ho,_⟩:=id a2
  exact ⟨a1.of_step st I.nsW hc,a2.of_step st a3,f.not a3 ho,a4⟩
 ·rcases f a h with h | h
  ·exact I.fpG a h
  ·refine .inr ?_
   cases q:G.s.heap.get? a with
   | none=>rfl
   | some o=>obtain ⟨o',e,_⟩:=I.step0.keep a o q; rw [h] at e; (first | exact dNS e | exact dSN e | (obtain rfl:=Option.some.inj e) | cases e)
 ·exact I.frs.step st (fun a o ho hf o9 o9 hw=>by
   obtain ⟨_,o₂,e₂,nn⟩:=R.there I.rsc hw
   rw [ho] at e₂; (first | (obtain rfl:=Option.some.inj e₂) | cases e₂); exact nn hf.1) e he
theorem Inv.pure {K:Kx} {R:Rsc} {G:Ent} {sc:Scope} {env:Env} {ρ:Rho} {S:R.σ} {Φ Φ':Fz} {s s':Shared} (I:Inv K R G sc env ρ S Φ s) (st:Step NoW Φ s Φ' s'):Inv K R G sc env ρ S Φ' s':=by
 refine I.step (st.weaken fun o9 h=>h.elim) FpLe.refl (R.stable I.rsc (fun a o e hf=>?_) st.le fun a hf=>let ⟨h1,_,h2,_⟩:=R.there I.rsc hf; st.noneΦ h1 h2 fun h=>h.elim)
 obtain ⟨o',e',q⟩:=st.keep a o e
 rcases q (fun h=>h.elim) with rfl | ⟨c,_⟩
 ·exact e'
 ·obtain ⟨_,o₂,e₂,n⟩:=R.there I.rsc hf
  rw [e] at e₂; (first | (obtain rfl:=Option.some.inj e₂) | cases e₂); exact absurd c n
structure After (K:Kx) (R:Rsc) (G:Ent) (sc:Scope) (env:Env) (ρ:Rho) (S:R.σ) (Φ:Fz) (s:Shared) (S':R.σ) (Φ':Fz) (s':Shared):Prop where
 inv:Inv K R G sc env ρ S' Φ' s'
 step:Step (R.fp S) Φ s Φ' s'
 fp:FpLe R S s S'
section
variable {K:Kx} {R:Rsc} {G:Ent} {sc:Scope} {env:Env} {ρ:Rho} {S S₁ S₂:R.σ} {Φ Φ₁ Φ₂:Fz} {s s₁ s₂:Shared}
theorem After.refl (I:Inv K R G sc env ρ S Φ s):After K R G sc env ρ S Φ s S Φ s:=⟨I,.refl I.froz,.refl⟩
theorem After.trans (x:After K R G sc env ρ S Φ s S₁ Φ₁ s₁) (y:After K R G sc env ρ S₁ Φ₁ s₁ S₂ Φ₂ s₂) :
  After K R G sc env ρ S Φ s S₂ Φ₂ s₂:=⟨y.inv,x.step.trans y.step x.fp,x.fp.trans x.step y.fp⟩
theorem After.pure (x:After K R G sc env ρ S Φ s S₁ Φ₁ s₁) (y:Step NoW Φ₁ s₁ Φ₂ s₂) :
  After K R G sc env ρ S Φ s S₁ Φ₂ s₂:=x.trans ⟨x.inv.pure y,y.weaken fun o9 h=>h.elim,.refl⟩
theorem After.start (I:Inv K R G sc env ρ S Φ s) (y:Step NoW Φ s Φ₂ s₂) :
  After K R G sc env ρ S Φ s S Φ₂ s₂:=(After.refl I).pure y
end
structure Okay (n:Nat) (A:Around):Prop where
 hd:0 < n→A.handled = none
 depth:A.depth + n < 900
 units:A.units + 100 * n < 9000
 gd:A.guards = some []
structure OkayG (n:Nat) (A:Around) (G:Ent):Prop extends Okay n A where
 fr:A.frames = some G.fs
theorem Okay.room {n:Nat} {A:Around} (h:Okay n A):A.depth < recursionLimit:=by have:=h.depth; show A.depth < 1000; dict_keeps
noncomputable def WRep (Φ:Fz) (h:Heap) (W:Addr→Prop) (d:D) (v:Value):Prop :=
 Rep Φ d v∨∃ ds a,d = .lst ds∧v = .ref a∧Owns Φ h a ds∧¬ W a
theorem WRep.lst {Φ:Fz} {h:Heap} {W:Addr→Prop} {ds:List PyData} {v:Value} (x:WRep Φ h W (.lst ds) v) (hf:∀ a o,Φ a = some o→h.get? a = some o):∃ a,v = .ref a∧LstAt Φ h a ds:=by
 rcases x with x | ⟨ds',a,e,rfl,o,_⟩
 ·obtain ⟨a,o,vs,n,rfl,h1,h2,h3,h4⟩:=x
  exact ⟨a,rfl,o,vs,n,hf _ _ h1,h2,h3,h4⟩
 ·cases e; exact ⟨a,rfl,o.lstAt⟩
theorem WRep.step {W:Addr→Prop} {Φ Φ':Fz} {s s':Shared} {d:D} {v:Value} (x:WRep Φ s.heap W d v) (st:Step W Φ s Φ' s') {W':Addr→Prop} (hw:∀ a,W' a→W a∨s.heap.get? a = none):WRep Φ' s'.heap W' d v:=by
 rcases x with x | ⟨ds,a,e,e',o,n⟩
 ·exact .inl (x.mono st.le)
 ·obtain ⟨_,ob,_,_,ho,_⟩:=id o
  exact .inr ⟨ds,a,e,e',o.of_step st n,fun q=>(hw a q).elim n fun z=>by rw [ho] at z; (first | exact dNS z | exact dSN z | (obtain rfl:=Option.some.inj z) | cases z)⟩
noncomputable def Away (R:Rsc) (S:R.σ) (s:Shared):Addr→Prop:=fun a=>R.fp S a∨s.heap.get? a = none
theorem WRep.weakW {Φ:Fz} {h:Heap} {W W':Addr→Prop} {d:D} {v:Value} (x:WRep Φ h W d v) (hw:∀ a,W' a→W a):WRep Φ h W' d v:=by
 rcases x with x | ⟨ds,a,e,e',o,n⟩
 ·exact .inl x
 ·exact .inr ⟨ds,a,e,e',o,fun q=>n (hw a q)⟩
section
variable (K:Kx) (R:Rsc) (G:Ent) (sc:Scope) (env:Env) (ρ:Rho) (S:R.σ) (Φ:Fz) (s:Shared)
inductive PE (Q:D→R.σ→Prop) (v:Value) (s':Shared):Prop
 | mk (Φ':Fz) (S':R.σ) (d:D) (a:After K R G sc env ρ S Φ s S' Φ' s') (r:Rep Φ' d v) (q:Q d S')
inductive PR (Q:D→R.σ→Prop) (v:Value) (s':Shared):Prop
 | mk (Φ':Fz) (S':R.σ) (d:D) (a:After K R G sc env ρ S Φ s S' Φ' s') (r:WRep Φ' s'.heap (Away R S' s) d v) (q:Q d S')
inductive PF (Q:List PyData→R.σ→Prop) (v:Value) (s':Shared):Prop
 | mk (Φ':Fz) (S':R.σ) (ds:List PyData) (ad:Addr) (a:After K R G sc env ρ S Φ s S' Φ' s') (e:v = .ref ad) (o:Owns Φ' s'.heap ad ds) (n:¬ R.fp S' ad) (f:s.heap.get? ad = none) (q:Q ds S')
inductive PTs (Q:Bool→R.σ→Prop) (b:Bool) (s':Shared):Prop
 | mk (Φ':Fz) (S':R.σ) (a:After K R G sc env ρ S Φ s S' Φ' s') (q:Q b S')
end
section
variable (n:Nat) (K:Kx) (R:Rsc) (sc:Scope) (ρ:Rho) (S:R.σ) (e:Expr)
noncomputable def WE (Q:D→R.σ→Prop):Prop :=
 ∀ A G env Φ s,OkayG n A G→Inv K R G sc env ρ S Φ s →
  wpAny K.M A (eval e env) (PE K R G sc env ρ S Φ s Q) (fun o9 o9=>False) s
noncomputable def WR (Q:D→R.σ→Prop):Prop :=
 ∀ A G env Φ s,OkayG n A G→Inv K R G sc env ρ S Φ s →
  wpAny K.M A (eval e env) (PR K R G sc env ρ S Φ s Q) (fun o9 o9=>False) s
noncomputable def WF (Q:List PyData→R.σ→Prop):Prop :=
 ∀ A G env Φ s,OkayG n A G→Inv K R G sc env ρ S Φ s →
  wpAny K.M A (eval e env) (PF K R G sc env ρ S Φ s Q) (fun o9 o9=>False) s
noncomputable def WT (Q:Bool→R.σ→Prop):Prop :=
 ∀ A G env Φ s,OkayG n A G→Inv K R G sc env ρ S Φ s →
  wpAny K.M A (isTrue e env (eval e env)) (PTs K R G sc env ρ S Φ s Q) (fun o9 o9=>False) s
end
section
variable {n:Nat} {K:Kx} {R:Rsc} {sc:Scope} {ρ:Rho} {S:R.σ} {e:Expr}
theorem WE.mono {Q Q':D→R.σ→Prop} (h:WE n K R sc ρ S e Q) (hQ:∀ d S',Q d S'→Q' d S'):WE n K R sc ρ S e Q' :=
 fun A G env Φ s ok I=>wpAny_mono (h A G env Φ s ok I) (fun o9 o9 hp0=>by obtain ⟨Φ',S',d,a,r,q⟩:=hp0; exact ⟨Φ',S',d,a,r,hQ _ _ q⟩) fun o9 o9 x=>x
theorem WT.mono {Q Q':Bool→R.σ→Prop} (h:WT n K R sc ρ S e Q) (hQ:∀ d S',Q d S'→Q' d S'):WT n K R sc ρ S e Q' :=
 fun A G env Φ s ok I=>wpAny_mono (h A G env Φ s ok I) (fun o9 o9 hp0=>by obtain ⟨Φ',S',r,q⟩:=hp0; exact ⟨Φ',S',r,hQ _ _ q⟩) fun o9 o9 x=>x
theorem WE.weak {Q:D→R.σ→Prop} (h:WE n K R sc ρ S e Q):WR n K R sc ρ S e Q :=
 fun A G env Φ s ok I=>wpAny_mono (h A G env Φ s ok I) (fun o9 o9 hp0=>by obtain ⟨Φ',S',d,a,r,q⟩:=hp0; exact ⟨Φ',S',d,a,.inl r,q⟩) fun o9 o9 x=>x
end
theorem Step.freeze {W:Addr→Prop} {Φ Φ':Fz} {s s':Shared} {a:Addr} {o:Obj} (x:Step W Φ s Φ' s') (hn:s.heap.get? a = none) (ho:s'.heap.get? a = some o) (hΦ:Φ' a = none):Step W Φ s (Φ'.add a o) s' where
 gens:=x.gens
 os:=x.os
 keep:=x.keep
 le:=x.le.trans (Fz.le_add hΦ)
 new:=fun b e n=>by
  by_cases q:b = a
  ·subst q; exact .inl hn
  ·exact x.new b e (by simpa [Fz.add,q] using n)
 froz:=fun b o' e=>by
  by_cases q:b = a
  ·subst q; simp [Fz.add] at e; subst e; exact ho
  ·exact x.froz b o' (by simpa [Fz.add,q] using e)
 fr:=x.fr
theorem After.freeze {K:Kx} {R:Rsc} {G:Ent} {sc:Scope} {env:Env} {ρ:Rho} {S S':R.σ} {Φ Φ':Fz} {s s':Shared} {a:Addr} {o:Obj} (I:Inv K R G sc env ρ S Φ s) (x:After K R G sc env ρ S Φ s S' Φ' s')
  (hn:s.heap.get? a = none) (ho:s'.heap.get? a = some o) (hΦ:Φ' a = none) (hfp:¬ R.fp S' a):After K R G sc env ρ S Φ s S' (Φ'.add a o) s':=by
 have st:=x.step.freeze hn ho hΦ
 refine ⟨I.step st x.fp (R.stable x.inv.rsc (fun o9 o9 e o9=>e) (Fz.le_add hΦ) fun b hb=>?_),st,x.fp⟩
 have:b≠a:=fun q=>hfp (q ▸ hb)
 simp [Fz.add,this,(R.there x.inv.rsc hb).no']
theorem WF.frozen {n:Nat} {K:Kx} {R:Rsc} {sc:Scope} {ρ:Rho} {S:R.σ} {e:Expr} {Q:D→R.σ→Prop} (h:WF n K R sc ρ S e fun ds S'=>Q (.lst ds) S'):WE n K R sc ρ S e Q :=
 fun A G env Φ s ok I=>wpAny_mono (h A G env Φ s ok I) (fun o9 o9 hp0=>by
  obtain ⟨Φ',S',ds,a,x,e,o,hfp,f,q⟩:=hp0
  subst e
  obtain ⟨hΦ,ob,vs,m,h1,h2,h3,h4⟩:=o
  refine ⟨_,S',.lst ds,x.freeze I f h1 hΦ hfp,?_,q⟩
  exact ⟨a,ob,vs,m,rfl,Fz.add_self ..,h2,h3,h4.mono (Fz.le_add hΦ)⟩) fun o9 o9 x=>x
end
structure Fzn (K:Kx) (Φ:Fz) (s:Shared):Prop where
 base:∀ a o,K.B.get? a = some o→Φ a = some o
 froz:∀ a o,Φ a = some o→s.heap.get? a = some o
theorem Inv.fzn {K:Kx} {R:Rsc} {G:Ent} {sc:Scope} {env:Env} {ρ:Rho} {S:R.σ} {Φ:Fz} {s:Shared} (I:Inv K R G sc env ρ S Φ s):Fzn K Φ s:=⟨I.base,I.froz⟩
theorem Fzn.keeps {K:Kx} {Φ:Fz} {s:Shared} (F:Fzn K Φ s):∀ a o,K.B.get? a = some o→s.heap.get? a = some o:=fun a o e=>F.froz a o (F.base a o e)
theorem Fzn.step {K:Kx} {W:Addr→Prop} {Φ Φ':Fz} {s s':Shared} (F:Fzn K Φ s) (st:Step W Φ s Φ' s'):Fzn K Φ' s':=⟨fun a o e=>st.le _ _ (F.base a o e),st.froz⟩
noncomputable def OpV (K:Kx) (A:Around) (Φ:Fz) (s:Shared) (t:Sem Value) (d:D):Prop :=
 ∀ (Q:Value→Shared→Prop) (E:Value→Shared→Prop),(∀ v Φ' s',Step NoW Φ s Φ' s'→Rep Φ' d v→Q v s')→wpAny K.M A t Q E s
theorem Step.tok {Φ:Fz} {s:Shared} {tk:Nat} (hf:∀ a o,Φ a = some o→s.heap.get? a = some o):Step NoW Φ s Φ { s with toks:=tk } :=
 ⟨rfl,rfl,fun o9 o e=>⟨o,e,fun o9=>.inl rfl⟩,Le.refl _,fun o9 e n=>absurd e n,hf,fun o9 o e f=>⟨o,e,f⟩⟩
section
variable {n:Nat} {K:Kx} {R:Rsc} {sc:Scope} {ρ:Rho} {S:R.σ}
theorem loads {A:Around} {G:Ent} {sc:Scope} {env:Env} {Φ:Fz} {s:Shared} {x:Str} {v:Value} {Q:Value→Shared→Prop} {E:Value→Shared→Prop}
  (I:Inv K R G sc env ρ S Φ s) (hv:VarIs K env s.heap x v) (h:Q v s):wpAny K.M A (loadName env x) Q E s:=by
 rcases hv with ⟨hk,m,hn,hm⟩ | ⟨hk,c,h1,h2⟩ | ⟨hk,hg⟩
 ·exact wpAny_loadName_local (I.scp ▸ I.kind) hk hn hm h
 ·rcases hk with hk | ⟨hk,hd⟩
  ·exact wpAny_loadName_cell (I.scp ▸ I.kind) hk h1 h2 h
  ·exact wpAny_loadName_free (I.scp ▸ I.kind) hk h1 h2 h hd
 ·have hgl:wpAny K.M A (loadGlobal env x) Q E s:=by
   have g:=K.gB.keeps (fun a o e=>I.froz a o (I.base a o e))
   have b:=K.bB.keeps (fun a o e=>I.froz a o (I.base a o e))
   rw [← I.globs] at g
   rw [← I.blts] at b
   rcases hg with hg | ⟨h1,h2⟩
   ·exact loadGlobal_global g hg h
   ·exact loadGlobal_builtin g h1 b h2 h
  have e:loadName env x = loadGlobal env x:=by
   unfold loadName
   have hb:env.blockKind = .function:=by unfold Env.blockKind; rw [I.scp,I.kind]; rfl
   have ha:env.scope.kind.isAnnotationScope = false:=by rw [I.scp,I.kind]; rfl
   rw [hb,hk,ha]
   rfl
  rw [e]; exact hgl
theorem we_name {x:Str} {pos:Pos} {d:D} {Q:D→R.σ→Prop} (h:ρ.lookup x = some (.val d)) (q:Q d S) (hd:(x == ("__debug__":Str)) = false:=by rfl):WE n K R sc ρ S (.Name x pos) Q :=
 fun A G env Φ s ok I=>by
  obtain ⟨v,h1,h2⟩:=I.vals x d h
  exact wpAny_Name (loads I h1 ⟨Φ,S,d,.refl I,h2,q⟩) hd
theorem glob_var {x:Str} {v:Value} {env:Env} {h:Heap} (he:env.scope = sc) (hg:K.gl x = some v) (hk:sc.names.lookup x = some .globalImplicit):VarIs K env h x v :=
 .inr (.inr ⟨by unfold Env.kindOf; rw [he]; exact hk,K.glOk x v hg⟩)
theorem wr_own {x:Str} {pos:Pos} {ds:List PyData} {Q:D→R.σ→Prop} (h:ρ.lookup x = some (.own ds)) (q:Q (.lst ds) S) (hd:(x == ("__debug__":Str)) = false:=by rfl):WR n K R sc ρ S (.Name x pos) Q :=
 fun A G env Φ s ok I=>by
  obtain ⟨ad,h1,_⟩:=I.owns
  obtain ⟨a1,a2,a3,_⟩:=h1 x ds h
  exact wpAny_Name (loads I a1 ⟨Φ,S,.lst ds,.refl I,.inr ⟨ds,_,rfl,rfl,a2,fun z=>z.elim a3 fun z=>by obtain ⟨_,o,_,_,ho,_⟩:=a2; rw [ho] at z; (first | exact dNS z | exact dSN z | (obtain rfl:=Option.some.inj z) | cases z)⟩,q⟩) hd
theorem we_int {i:Int} {k:Nat} {pos:Pos} {Q:D→R.σ→Prop} (q:Q (.int i) S):WE n K R sc ρ S (.Constant (.int i) k pos) Q :=
 fun A G env Φ s ok I=>wpAny_Constant_int ⟨Φ,S,.int i,.start I (.tok I.froz),(by first | exact rfl | exact ⟨_,rfl⟩),q⟩
theorem we_str {x:Str} {k:Nat} {pos:Pos} {Q:D→R.σ→Prop} (q:Q (.str x) S):WE n K R sc ρ S (.Constant (.str x) k pos) Q :=
 fun A G env Φ s ok I=>Calls.Constant_str ⟨Φ,S,.str x,.start I (.tok I.froz),(by first | exact rfl | exact ⟨_,rfl⟩),q⟩
theorem we_none {k:Nat} {pos:Pos} {Q:D→R.σ→Prop} (q:Q .none S):WE n K R sc ρ S (.Constant .none k pos) Q :=
 fun A G env Φ s ok I=>by
  show wpAny _ _ (constValue env .none) _ _ _
  exact wpAny_pure ⟨Φ,S,.none,.refl I,(by first | exact rfl | exact ⟨_,rfl⟩),q⟩
noncomputable def Bin (n:Nat) (K:Kx) (op:Operator) (a b d:D):Prop :=
 ∀ A Φ s u v,Okay n A→Fzn K Φ s→Rep Φ a u→Rep Φ b v→OpV K A Φ s (binaryOp op u v) d
theorem we_bin {l r:Expr} {op:Operator} {pos:Pos} {Q:D→R.σ→Prop}
  (h:WE n K R sc ρ S l fun a S₁=>WE n K R sc ρ S₁ r fun b=>Of (Bin n K op a b) Q):WE n K R sc ρ S (.BinOp l op r pos) Q :=
 fun A G env Φ s ok I=>wpAny_BinOp (wpAny_mono (h A G env Φ s ok I) (fun u s₁ ⟨Φ₁,S₁,a,x₁,r₁,q₁⟩ =>
  wpAny_mono (q₁ A G env Φ₁ s₁ ok x₁.inv) (fun v s₂ ⟨Φ₂,S₂,b,x₂,r₂,d,hop,q⟩ =>
   hop A Φ₂ s₂ u v ok.toOkay x₂.inv.fzn (r₁.mono x₂.step.le) r₂ _ _ fun w Φ₃ s₃ st r₃=>⟨Φ₃,S₂,d,(x₁.trans x₂).pure st,r₃,q⟩) fun o9 o9 x=>x.elim) fun o9 o9 x=>x.elim)
theorem bin_add {a b:Int}:Bin n K .Add (.int a) (.int b) (.int (a + b)):=fun A Φ s u v ok F hp0 hp1 Q E h=>by
 obtain ⟨_,e₁⟩:=hp0; obtain ⟨_,e₂⟩:=hp1
 subst e₁ e₂; exact add_int (h _ Φ _ (.tok F.froz) ((by first | exact rfl | exact ⟨_,rfl⟩)))
theorem bin_sub {a b:Int}:Bin n K .Sub (.int a) (.int b) (.int (a - b)):=fun A Φ s u v ok F hp0 hp1 Q E h=>by
 obtain ⟨_,e₁⟩:=hp0; obtain ⟨_,e₂⟩:=hp1
 subst e₁ e₂; exact sub_int (h _ Φ _ (.tok F.froz) ((by first | exact rfl | exact ⟨_,rfl⟩)))
theorem bin_mul {a b:Int} (hm:IntMulOk a b):Bin n K .Mult (.int a) (.int b) (.int (a * b)):=fun A Φ s u v ok F hp0 hp1 Q E h=>by
 obtain ⟨_,e₁⟩:=hp0; obtain ⟨_,e₂⟩:=hp1
 subst e₁ e₂; exact mul_int (h _ Φ _ (.tok F.froz) ((by first | exact rfl | exact ⟨_,rfl⟩))) hm
theorem bin_div {a b:Int} (hb:0 < b) (hs:b < 1073741824):Bin n K .FloorDiv (.int a) (.int b) (.int (a / b)):=fun A Φ s u v ok F hp0 hp1 Q E h=>by
 obtain ⟨_,e₁⟩:=hp0; obtain ⟨_,e₂⟩:=hp1
 subst e₁ e₂
 have:=Int.fdiv_eq_ediv_of_nonneg a (Int.le_of_lt hb)
 exact floordiv_int (by dict_keeps) (by rw [this]; exact h _ Φ _ (.tok F.froz) ((by first | exact rfl | exact ⟨_,rfl⟩))) (.inl (PyProof.noPylong_small (by dict_keeps)))
theorem bin_mod {a b:Int} (hb:0 < b):Bin n K .Mod (.int a) (.int b) (.int (a % b)):=fun A Φ s u v ok F hp0 hp1 Q E h=>by
 obtain ⟨_,e₁⟩:=hp0; obtain ⟨_,e₂⟩:=hp1
 subst e₁ e₂
 have:=Int.fmod_eq_emod_of_nonneg a (Int.le_of_lt hb)
 exact mod_int' (by dict_keeps) (by rw [this]; exact h _ Φ _ (.tok F.froz) ((by first | exact rfl | exact ⟨_,rfl⟩)))
theorem bin_pow {a b:Int} (hb:0≤b) (hsz:(Builtin.Int.intBits a:Int) * b≤2 ^ 27):Bin n K .Pow (.int a) (.int b) (.int (a ^ b.toNat)):=fun A Φ s u v ok F hp0 hp1 Q E h=>by
 obtain ⟨_,e₁⟩:=hp0; obtain ⟨_,e₂⟩:=hp1
 subst e₁ e₂
 exact pow_int hb hsz (h _ Φ _ (.tok F.froz) ((by first | exact rfl | exact ⟨_,rfl⟩)))
theorem bin_and {a b:Int}:Bin n K .BitAnd (.int a) (.int b) (.int (Builtin.bitAnd a b)):=fun A Φ s u v ok F hp0 hp1 Q E h=>by
 obtain ⟨_,e₁⟩:=hp0; obtain ⟨_,e₂⟩:=hp1
 subst e₁ e₂; exact and_int (h _ Φ _ (.tok F.froz) ((by first | exact rfl | exact ⟨_,rfl⟩)))
theorem we_neg {e:Expr} {pos:Pos} {Q:D→R.σ→Prop} (h:WE n K R sc ρ S e (IsD D.int fun i=>Q (.int (-i)))):WE n K R sc ρ S (.UnaryOp .USub e pos) Q :=
 fun A G env Φ s ok I=>UnaryOp_ (wpAny_mono (h A G env Φ s ok I) (fun u s₁ hp0=>by
  obtain ⟨Φ₁,S₁,a,x₁,r₁,i,e,q₁⟩:=hp0
  subst e
  obtain ⟨t,rfl⟩:=r₁
  exact neg_int ⟨Φ₁,S₁,.int (-i),x₁.pure (.tok x₁.inv.froz),(by first | exact rfl | exact ⟨_,rfl⟩),q₁⟩) fun o9 o9 x=>x.elim)
theorem we_ifexp {t a b:Expr} {pos:Pos} {Q:D→R.σ→Prop} (h:WT n K R sc ρ S t fun c S₁=>if c then WE n K R sc ρ S₁ a Q else WE n K R sc ρ S₁ b Q):WE n K R sc ρ S (.IfExp t a b pos) Q :=
 fun A G env Φ s ok I=>IfExp_ (wpAny_mono (h A G env Φ s ok I) (fun c s₁ hp0=>by
  obtain ⟨Φ₁,S₁,x₁,q⟩:=hp0
  cases c with
  | true=>exact wpAny_mono ((show WE n K R sc ρ S₁ a Q by simpa using q) A G env Φ₁ s₁ ok x₁.inv) (fun v s₂ hp0=>by obtain ⟨Φ₂,S₂,d,x₂,r,q⟩:=hp0; exact ⟨Φ₂,S₂,d,x₁.trans x₂,r,q⟩) fun o9 o9 x=>x
  | false=>exact wpAny_mono ((show WE n K R sc ρ S₁ b Q by simpa using q) A G env Φ₁ s₁ ok x₁.inv) (fun v s₂ hp0=>by obtain ⟨Φ₂,S₂,d,x₂,r,q⟩:=hp0; exact ⟨Φ₂,S₂,d,x₁.trans x₂,r,q⟩) fun o9 o9 x=>x) fun o9 o9 x=>x)
end
noncomputable def Sh (k:Nat) (d:PyData):Prop:=d.canLay0 = true∧d.depth≤k
noncomputable def ShAll (k:Nat) (l:List PyData):Prop:=PyData.canLayAll0 l = true∧PyData.depthAll l≤k
theorem ShAll.nil {k:Nat}:ShAll k []:=⟨by simp [PyData.canLayAll0],by simp [PyData.depthAll]⟩
theorem ShAll.cons {k:Nat} {d:PyData} {l:List PyData} (h:Sh k d) (h':ShAll k l):ShAll k (d :: l) :=
 ⟨by simp [PyData.canLayAll0,h.1,h'.1],by have:=h.2; have:=h'.2; simp only [PyData.depthAll]; (first | lia | omega)⟩
theorem ShAll.of {k:Nat}:∀ {l:List PyData},(∀ d∈l,Sh k d)→ShAll k l
 | [],_=>.nil
 | d :: l,h=>.cons (h d (.head _)) (.of fun x hx=>h x (.tail _ hx))
theorem Sh.none {k:Nat}:Sh k .none:=⟨by simp [PyData.canLay0],by simp [PyData.depth]⟩
theorem Sh.int {k:Nat} {i:Int}:Sh k (.int i):=⟨by simp [PyData.canLay0],by simp [PyData.depth]⟩
theorem Sh.str {k:Nat} {x:Str} (h:PyData.strOk x = true):Sh k (.str x):=⟨by simp [PyData.canLay0,h],by simp [PyData.depth]⟩
theorem Sh.list {k:Nat} {l:List PyData} (h:ShAll k l):Sh (k + 1) (.list l):=⟨by simp [PyData.canLay0,h.1],by have:=h.2; simp only [PyData.depth]; (first | lia | omega)⟩
theorem Sh.tuple {k:Nat} {l:List PyData} (h:ShAll k l):Sh (k + 1) (.tuple l):=⟨by simp [PyData.canLay0,h.1],by have:=h.2; simp only [PyData.depth]; (first | lia | omega)⟩
theorem LstAt.isList {Φ:Fz} {h:Heap} {a:Addr} {ds:List PyData} (x:LstAt Φ h a ds):∃ vs,h.IsList a vs∧Reps Φ ds vs.toList :=
 let ⟨o,vs,n,h1,h2,h3,h4⟩:=x; ⟨vs,⟨o,h1,h2.1,n,h3⟩,h4⟩
theorem WRep.reads {Φ:Fz} {h:Heap} {W:Addr→Prop} {d:PyData} {v:Value} (x:WRep Φ h W (.py d) v) (hf:∀ a o,Φ a = some o→h.get? a = some o):∃ as,Reads h v d as:=by
 rcases x with x | ⟨ds,a,e,rfl,o,_⟩
 ·exact RepP.reads hf x
 ·cases e
  obtain ⟨_,ob,vs,n,h1,h2,h3,h4⟩:=o
  obtain ⟨as,r⟩:=Reps.reads hf h4
  exact ⟨_,.list h1 h2.1 h3 r⟩
theorem WRep.nolist {Φ:Fz} {h:Heap} {W:Addr→Prop} {d:D} {v:Value} (x:WRep Φ h W d v) (hd:∀ l,d≠.lst l):Rep Φ d v:=by
 rcases x with x | ⟨ds,a,e,_⟩
 ·exact x
 ·exact absurd e (hd _)
theorem away_step {R:Rsc} {S₁ S₂:R.σ} {Φ₁ Φ₂:Fz} {s s₁ s₂:Shared} {d:D} {v:Value} (x:WRep Φ₁ s₁.heap (Away R S₁ s) d v) (st:Step (R.fp S₁) Φ₁ s₁ Φ₂ s₂) (f:FpLe R S₁ s₁ S₂):WRep Φ₂ s₂.heap (Away R S₂ s₁) d v :=
 x.step (st.weaken fun a h=>.inl h) fun a h=>by
  rcases h with h | h
  ·rcases f a h with h | h
   ·exact .inl (.inl h)
   ·exact .inr h
  ·exact .inr h
noncomputable def Cmp (n:Nat) (K:Kx) (op:CmpOp) (a b:D) (r:Bool):Prop :=
 ∀ A Φ s W u v,Okay n A→Fzn K Φ s→WRep Φ s.heap W a u→WRep Φ s.heap W b v→∀ (Q:Value→Shared→Prop) (E:Value→Shared→Prop),(∀ s',Step NoW Φ s Φ s'→Q (.bool r) s')→wpAny K.M A (compareOp op u v) Q E s
section
variable {n:Nat} {K:Kx} {R:Rsc} {sc:Scope} {ρ:Rho} {S:R.σ}
theorem we_cmp {l r:Expr} {op:CmpOp} {pos:Pos} {Q:D→R.σ→Prop}
  (h:WR n K R sc ρ S l fun a S₁=>WR n K R sc ρ S₁ r fun b=>Of (Cmp n K op a b) fun c=>Q (.bool c)) (hm:behindInMarks op r = false:=by with_unfolding_all rfl):WE n K R sc ρ S (.Compare l [op] [r] pos) Q :=
 fun A G env Φ s ok I=>wpAny_Compare1 (wpAny_mono (h A G env Φ s ok I) (fun u s₁ ⟨Φ₁,S₁,a,x₁,r₁,q₁⟩ =>
  wpAny_mono (q₁ A G env Φ₁ s₁ ok x₁.inv) (fun v s₂ ⟨Φ₂,S₂,b,x₂,r₂,c,hop,q⟩ =>
   hop A Φ₂ s₂ _ u v ok.toOkay x₂.inv.fzn (away_step r₁ x₂.step x₂.fp) r₂ _ _ fun s₃ st=>⟨Φ₂,S₂,.bool c,(x₁.trans x₂).pure st,(by first | exact rfl | exact ⟨_,rfl⟩),q⟩) fun o9 o9 x=>x.elim) fun o9 o9 x=>x.elim) hm
theorem wt_cmp {l r:Expr} {op:CmpOp} {pos:Pos} {Q:Bool→R.σ→Prop}
  (h:WR n K R sc ρ S l fun a S₁=>WR n K R sc ρ S₁ r fun b=>Of (Cmp n K op a b) Q) (hm:behindInMarks op r = false:=by with_unfolding_all rfl):WT n K R sc ρ S (.Compare l [op] [r] pos) Q :=
 fun A G env Φ s ok I=>wpAny_isTrue_Compare1 (wpAny_mono (h A G env Φ s ok I) (fun u s₁ ⟨Φ₁,S₁,a,x₁,r₁,q₁⟩ =>
  wpAny_mono (q₁ A G env Φ₁ s₁ ok x₁.inv) (fun v s₂ ⟨Φ₂,S₂,b,x₂,r₂,c,hop,q⟩ =>
   hop A Φ₂ s₂ _ u v ok.toOkay x₂.inv.fzn (away_step r₁ x₂.step x₂.fp) r₂ _ _ fun s₃ st=>wpAny_truthy_bool ⟨Φ₂,S₂,(x₁.trans x₂).pure st,q⟩) fun o9 o9 x=>x.elim) fun o9 o9 x=>x.elim) hm
theorem Okay.mn {n:Nat} {A:Around} (h:Okay n A) {a b:Nat} (hb:b≤50):A.units + 1 + min a b < 9900 :=
 Nat.lt_of_lt_of_le (Nat.add_lt_add_of_lt_of_le (Nat.succ_lt_succ (Nat.lt_of_le_of_lt (Nat.le_add_right _ _) h.units)) (Nat.le_trans (Nat.min_le_right _ _) hb)) (show 9001 + 50≤9900 by decide)
theorem Okay.mn0 {n:Nat} {A:Around} (h:Okay n A) {a b:Nat} (hb:b≤50):A.units + min a b < 9900:=Nat.lt_of_le_of_lt (Nat.add_le_add_right (Nat.le_succ _) _) (h.mn hb)
theorem cmp_eq {a b:PyData} (ha:Sh 50 a) (hb:Sh 50 b):Cmp n K .Eq (.py a) (.py b) (PyData.eqv a b):=fun A Φ s W u v ok F x y Q E h=>by
 obtain ⟨as,r⟩:=x.reads F.froz
 obtain ⟨bs,r'⟩:=y.reads F.froz
 exact SeqAt.compareEq_reads r r' ha.1 hb.1 (ok.mn0 hb.2) (h _ (.refl F.froz))
theorem cmp_ne {a b:PyData} (ha:Sh 50 a) (hb:Sh 50 b):Cmp n K .NotEq (.py a) (.py b) (!PyData.eqv a b):=fun A Φ s W u v ok F x y Q E h=>by
 obtain ⟨as,r⟩:=x.reads F.froz
 obtain ⟨bs,r'⟩:=y.reads F.froz
 exact SeqAt.compareNe_reads r r' ha.1 hb.1 (ok.mn0 hb.2) (h _ (.refl F.froz))
theorem cmp_in {a:PyData} {l:List PyData} (ha:Sh 50 a) (hl:ShAll 50 l):Cmp n K .In (.py a) (.lst l) (l.any fun y=>PyData.eqv y a):=fun A Φ s W u v ok F x y Q E h=>by
 obtain ⟨as,r⟩:=x.reads F.froz
 obtain ⟨bs,r'⟩:=y.reads F.froz
 exact SeqAt.in_list_reads r' r hl.1 ha.1 (ok.mn ha.2) (h _ (.refl F.froz))
theorem cmp_notin {a:PyData} {l:List PyData} (ha:Sh 50 a) (hl:ShAll 50 l):Cmp n K .NotIn (.py a) (.lst l) (!l.any fun y=>PyData.eqv y a):=fun A Φ s W u v ok F x y Q E h=>by
 obtain ⟨as,r⟩:=x.reads F.froz
 obtain ⟨bs,r'⟩:=y.reads F.froz
 exact SeqAt.notIn_list_reads r' r hl.1 ha.1 (ok.mn ha.2) (h _ (.refl F.froz))
theorem WRep.int {Φ:Fz} {h:Heap} {W:Addr→Prop} {i:Int} {v:Value} (x:WRep Φ h W (.int i) v):∃ t,v = .int i t:=by
 exact x.nolist fun l e=>by cases e
theorem cmp_lt {a b:Int}:Cmp n K .Lt (.int a) (.int b) (decide (a < b)):=fun A Φ s W u v ok F x y Q E h=>by
 obtain ⟨_,rfl⟩:=x.int; obtain ⟨_,rfl⟩:=y.int; exact P.lt_int (h _ (.refl F.froz))
theorem cmp_ge {a b:Int}:Cmp n K .GtE (.int a) (.int b) (decide (a ≥ b)):=fun A Φ s W u v ok F x y Q E h=>by
 obtain ⟨_,rfl⟩:=x.int; obtain ⟨_,rfl⟩:=y.int; exact P.ge_int (h _ (.refl F.froz))
end
theorem Ns.inj {h:Heap} {L:Addr} {m m':Str→Option Value} (x:h.Ns L m) (y:h.Ns L m'):m = m':=by
 obtain ⟨o,es,ep,h1,h2,_,h3⟩:=x
 obtain ⟨o',es',ep',h1',h2',_,h3'⟩:=y
 rw [h1] at h1'; (first | exact dNS h1' | exact dSN h1' | (obtain rfl:=Option.some.inj h1') | cases h1')
 rw [h2] at h2'; (first | exact dNS h2' | exact dSN h2' | (obtain rfl:=Option.some.inj h2') | cases h2')
 funext z; rw [← h3,← h3']
theorem IsCell.inj {h:Heap} {c:Addr} {v v':Option Value} (x:h.IsCell c v) (y:h.IsCell c v'):v = v':=by
 obtain ⟨o,h1,h2⟩:=x
 obtain ⟨o',h1',h2'⟩:=y
 rw [h1] at h1'; (first | exact dNS h1' | exact dSN h1' | (obtain rfl:=Option.some.inj h1') | cases h1')
 rw [h2] at h2'; (first | (obtain rfl:=Option.some.inj h2') | cases h2'); rfl
theorem VarIs.inj {K:Kx} {env:Env} {h:Heap} {x:Str} {v v':Value} (a:VarIs K env h x v) (b:VarIs K env h x v'):v = v':=by
 rcases a with ⟨k,m,n,e⟩ | ⟨k,c,n,e⟩ | ⟨k,g⟩
 ·rcases b with ⟨k',m',n',e'⟩ | ⟨k',c',n',e'⟩ | ⟨k',g'⟩
  ·have:=Ns.inj n n'; subst this; rw [e] at e'; (first | (obtain rfl:=Option.some.inj e') | cases e'); rfl
  ·rw [k] at k'; rcases k' with q | ⟨q,_⟩ <;> cases q
  ·rw [k] at k'; (first | exact dNS k' | exact dSN k' | (obtain rfl:=Option.some.inj k') | cases k')
 ·rcases b with ⟨k',m',n',e'⟩ | ⟨k',c',n',e'⟩ | ⟨k',g'⟩
  ·rw [k'] at k; rcases k with q | ⟨q,_⟩ <;> cases q
  ·rw [n] at n'; (first | (obtain rfl:=Option.some.inj n') | cases n'); cases IsCell.inj e e'; rfl
  ·rw [k'] at k; rcases k with q | ⟨q,_⟩ <;> cases q
 ·rcases b with ⟨k',m',n',e'⟩ | ⟨k',c',n',e'⟩ | ⟨k',g'⟩
  ·rw [k] at k'; (first | exact dNS k' | exact dSN k' | (obtain rfl:=Option.some.inj k') | cases k')
  ·rw [k] at k'; rcases k' with q | ⟨q,_⟩ <;> cases q
  ·rcases g with g | ⟨g1,g2⟩ <;> rcases g' with g' | ⟨g1',g2'⟩
   ·rw [g] at g'; (first | (obtain rfl:=Option.some.inj g') | cases g'); rfl
   ·rw [g] at g1'; (first | exact dNS g1' | exact dSN g1' | (obtain rfl:=Option.some.inj g1') | cases g1')
   ·rw [g1] at g'; (first | exact dNS g' | exact dSN g' | (obtain rfl:=Option.some.inj g') | cases g')
   ·rw [g2] at g2'; (first | (obtain rfl:=Option.some.inj g2') | cases g2'); rfl
section
variable {n:Nat} {K:Kx} {R:Rsc} {G:Ent} {sc:Scope} {env:Env} {ρ:Rho} {S:R.σ} {Φ:Fz} {s:Shared}
theorem Inv.locals_dict (I:Inv K R G sc env ρ S Φ s):∃ o es ep,s.heap.get? env.locals = some o∧o.data = .dict es ep:=by
 obtain ⟨m,o,es,ep,h1,h2,_⟩:=I.ns; exact ⟨o,es,ep,h1,h2⟩
theorem Inv.cell_ne (I:Inv K R G sc env ρ S Φ s) {c:Addr} {v:Option Value} (hc:s.heap.IsCell c v):c≠env.locals:=by
 obtain ⟨o,es,ep,h1,h2⟩:=I.locals_dict
 obtain ⟨o',h1',h2'⟩:=hc
 rintro rfl
 rw [h1] at h1'; (first | (obtain rfl:=Option.some.inj h1') | cases h1'); rw [h2] at h2'; (first | exact dNS h2' | exact dSN h2' | (obtain rfl:=Option.some.inj h2') | cases h2')
theorem Inv.poke {h':Heap} {tk:Nat} {p:Addr} {op:Obj} (I:Inv K R G sc env ρ S Φ s) (hs:Heap.SameBut p s.heap h') (hΦ:Φ p = none) (hfp:¬ R.fp S p) (hG:G.s.heap.get? p = none)
  (hp:s.heap.get? p = some op) (hp':∃ o',h'.get? p = some o') (hfr:FrO op→∃ o',h'.get? p = some o'∧FrO o') :
  (∀ a o,Φ a = some o→h'.get? a = some o)∧R.ok S Φ h'∧Step G.W G.Φ G.s Φ { s with heap:=h',toks:=tk }∧(∀ a o,s.heap.get? a = some o→FrO o→∃ o',h'.get? a = some o'∧FrO o'):=by
 have frs:∀ a o,s.heap.get? a = some o→FrO o→∃ o',h'.get? a = some o'∧FrO o':=fun a o e f=>by
  by_cases q:a = p
  ·subst q; rw [hp] at e; (first | (obtain rfl:=Option.some.inj e) | cases e); exact hfr f
  ·exact ⟨o,by rw [hs.2 a q]; exact e,f⟩
 have fz:∀ a o,Φ a = some o→h'.get? a = some o:=fun a o e=>by
  have:a≠p:=fun q=>by rw [q,hΦ] at e; (first | exact dNS e | exact dSN e | (obtain rfl:=Option.some.inj e) | cases e)
  rw [hs.2 a this]; exact I.froz a o e
 refine ⟨fz,R.stable I.rsc (fun a o e hf=>?_) (Le.refl _) fun a hf=>(R.there I.rsc hf).no',⟨I.step0.gens,I.step0.os,fun a o e=>?_,I.step0.le,I.step0.new,fz,fun a o e f=>let ⟨o₁,e₁,f₁⟩:=I.step0.fr a o e f; frs a o₁ e₁ f₁⟩,frs⟩
 ·have:a≠p:=fun q=>hfp (q ▸ hf)
  rw [hs.2 a this]; exact e
 ·obtain ⟨o',e',q⟩:=I.step0.keep a o e
  have:a≠p:=fun q=>by rw [q,hG] at e; (first | exact dNS e | exact dSN e | (obtain rfl:=Option.some.inj e) | cases e)
  exact ⟨o',by show h'.get? a = some o'; rw [hs.2 a this]; exact e',q⟩
theorem Owns.of_same {h h':Heap} {p a:Addr} {ds:List PyData} (x:Owns Φ h a ds) (hs:Heap.SameBut p h h') (hne:a≠p):Owns Φ h' a ds:=by
 obtain ⟨f,o,vs,k,h1,r1,r2,r3⟩:=x
 exact ⟨f,o,vs,k,by rw [hs.2 a hne]; exact h1,r1,r2,r3⟩
noncomputable def Place (env:Env) (x:Str):Addr→Prop:=fun a=>a = env.locals∨env.cells.lookup x = some a
structure Stored (K:Kx) (R:Rsc) (G:Ent) (sc:Scope) (env:Env) (x:Str) (v:Value) (S:R.σ) (Φ:Fz) (s s':Shared):Prop where
 froz:∀ a o,Φ a = some o→s'.heap.get? a = some o
 ns:∃ m,s'.heap.Ns env.locals m
 cel:∀ x c,env.cells.lookup x = some c→(∃ v,s'.heap.IsCell c v)
 self:VarIs K env s'.heap x v
 other:∀ y u,y≠x→VarIs K env s.heap y u→VarIs K env s'.heap y u
 owns:∀ a ds,Owns Φ s.heap a ds→Owns Φ s'.heap a ds
 rsc:R.ok S Φ s'.heap
 step0:Step G.W G.Φ G.s Φ s'
 step:Step (Place env x) Φ s Φ s'
theorem Step.same {p:Addr} {h':Heap} {tk:Nat} {o':Obj} {W:Addr→Prop} (hs:Heap.SameBut p s.heap h') (hp':h'.get? p = some o') (hf:∀ a o,Φ a = some o→h'.get? a = some o) (hW:W p) (frs:∀ a o,s.heap.get? a = some o→FrO o→∃ o',h'.get? a = some o'∧FrO o') :
  Step W Φ s Φ { s with heap:=h',toks:=tk } :=
 ⟨rfl,rfl,fun a o e=>by
  by_cases q:a = p
  ·subst q; exact ⟨o',hp',fun n=>absurd hW n⟩
  ·exact ⟨o,by show h'.get? a = some o; rw [hs.2 a q]; exact e,fun o9=>.inl rfl⟩,Le.refl _,fun o9 e n=>absurd e n,hf,frs⟩
theorem stored {A:Around} {x:Str} {v:Value} {Q:Unit→Shared→Prop} {E:Value→Shared→Prop} (I:Inv K R G sc env ρ S Φ s)
  (hk:sc.names.lookup x = some .local∨sc.names.lookup x = some .cell) (hm:G.mine x = true) (h:∀ s',Stored K R G sc env x v S Φ s s'→Q () s'):wpAny K.M A (storeName env x v) Q E s:=by
 have hki:env.kindOf x = sc.names.lookup x:=by unfold Env.kindOf; rw [I.scp]
 rcases hk with hk | hk
 ·obtain ⟨m,hn⟩:=I.ns
  have hn0:=hn
  obtain ⟨oL,esL,epL,hoL,hdL,_⟩:=hn0
  rw [storeName_local (hki.trans hk) (by rw [I.scp,I.kind]; rfl)]
  refine nsSet_keeps hn fun h' hn' hs hcl=>h _ ?_
  have hn0':=hn'
  obtain ⟨oL',esL',epL',hoL',hdL',_⟩:=hn0'
  obtain ⟨p1,p2,p3,p4⟩:=I.poke (tk:=s.toks + 1) hs I.nsΦ I.nsW I.nsG hoL ⟨oL',hoL'⟩ (fun f=>by
   obtain ⟨o2,e2,c2⟩:=hcl oL hoL
   rw [hoL'] at e2; (first | exact dNS e2 | exact dSN e2 | (obtain rfl:=Option.some.inj e2) | cases e2)
   exact ⟨oL',hoL',c2.trans f.1,esL',epL',hdL'⟩)
  refine ⟨p1,⟨_,hn'⟩,fun y c hc=>?_,.inl ⟨hki.trans hk,_,hn',by simp⟩,fun y u hy hv=>?_,fun a ds o=>?_,p2,p3,.same hs hoL' p1 (.inl rfl) p4⟩
  ·obtain ⟨⟨v',hv'⟩,_⟩:=I.cel y c hc
   exact ⟨v',hv'.sameBut hs (I.cell_ne hv')⟩
  ·rcases hv with ⟨k,m',n',e⟩ | ⟨k,c,h1,h2⟩ | hg
   ·have:=Ns.inj n' hn; subst this
    exact .inl ⟨k,_,hn',by simp [hy,e]⟩
   ·exact .inr (.inl ⟨k,c,h1,h2.sameBut hs (I.cell_ne h2)⟩)
   ·exact .inr (.inr hg)
  ·refine o.of_same hs ?_
   obtain ⟨_,oa,vs,k,h1,_,h3,_⟩:=o
   rintro rfl; rw [hoL] at h1; (first | (obtain rfl:=Option.some.inj h1) | cases h1); rw [hdL] at h3; (first | exact dNS h3 | exact dSN h3 | (obtain rfl:=Option.some.inj h3) | cases h3)
 ·obtain ⟨c,hc⟩:=I.celA x (.inl hk)
  obtain ⟨⟨v₀,hv₀⟩,hΦ,hfp⟩:=I.cel x c hc
  have hv0':=hv₀
  obtain ⟨oc,hoc,hdc⟩:=hv0'
  refine wpAny_storeName_cell (by rw [I.scp]; exact I.kind) (hki.trans hk) hc hv₀ fun h' hc' hs=>h _ ?_
  have hc0:=hc'
  obtain ⟨oc',hoc',_⟩:=hc0
  obtain ⟨p1,p2,p3,p4⟩:=I.poke (tk:=s.toks) hs hΦ hfp (I.celG x c hm hc) hoc ⟨oc',hoc'⟩ (fun f=>by obtain ⟨_,es,ep,q⟩:=f; rw [hdc] at q; (first | exact dNS q | exact dSN q | (obtain rfl:=Option.some.inj q) | cases q))
  have hne:=I.cell_ne hv₀
  obtain ⟨m,hn⟩:=I.ns
  refine ⟨p1,⟨m,hn.sameBut hs (Ne.symm hne)⟩,fun y c' hc2=>?_,.inr (.inl ⟨.inl (hki.trans hk),c,hc,hc'⟩),fun y u hy hv=>?_,fun a ds o=>?_,p2,p3,.same hs hoc' p1 (.inr hc) p4⟩
  ·obtain ⟨⟨v',hv'⟩,_⟩:=I.cel y c' hc2
   by_cases q:c' = c
   ·subst q; exact ⟨_,hc'⟩
   ·exact ⟨v',hv'.sameBut hs q⟩
  ·rcases hv with ⟨k,m',n',e⟩ | ⟨k,c',h1,h2⟩ | hg
   ·exact .inl ⟨k,m',n'.sameBut hs (Ne.symm hne),e⟩
   ·refine .inr (.inl ⟨k,c',h1,h2.sameBut hs ?_⟩)
    rintro rfl; exact hy (I.celD _ _ _ h1 hc)
   ·exact .inr (.inr hg)
  ·refine o.of_same hs ?_
   obtain ⟨_,oa,vs,k,h1,_,h3,_⟩:=o
   rintro rfl; rw [hoc] at h1; (first | (obtain rfl:=Option.some.inj h1) | cases h1); rw [hdc] at h3; (first | exact dNS h3 | exact dSN h3 | (obtain rfl:=Option.some.inj h3) | cases h3)
theorem Stored.frs {x:Str} {v:Value} {s':Shared} (X:Stored K R G sc env x v S Φ s s') (I:Inv K R G sc env ρ S Φ s):FrsOk K G.fs Φ s' :=
 I.frs.step X.step fun o9 o9 o9 o9 h1 h2=>absurd h2 h1
theorem Stored.val {x:Str} {v:Value} {d:D} {s':Shared} (X:Stored K R G sc env x v S Φ s s') (I:Inv K R G sc env ρ S Φ s) (hr:Rep Φ d v):Inv K R G sc env ((x,.val d) :: ρ) S Φ s':=by
 refine ⟨I.base,X.froz,I.scp,I.kind,I.globs,I.blts,X.ns,I.nsΦ,I.nsW,I.nsG,fun y c hc=>⟨X.cel y c hc,(I.cel y c hc).2⟩,I.celG,I.celA,I.celD,fun y d' hy=>?_,?_,X.rsc,X.step0,I.fpG,X.frs I⟩
 ·by_cases q:y = x
  ·subst q; rw [lookup_cons_self] at hy; (first | (obtain rfl:=Option.some.inj hy) | cases hy); exact ⟨v,X.self,hr⟩
  ·rw [lookup_cons_ne q] at hy
   obtain ⟨u,h1,h2⟩:=I.vals y d' hy
   exact ⟨u,X.other y u q h1,h2⟩
 ·obtain ⟨ad,h1,h2⟩:=I.owns
  have key:∀ y ds,List.lookup y ((x,Slot.val d) :: ρ) = some (.own ds)→y≠x∧List.lookup y ρ = some (.own ds):=fun y ds hy=>by
   by_cases q:y = x
   ·subst q; rw [lookup_cons_self] at hy; (first | exact dNS hy | exact dSN hy | (obtain rfl:=Option.some.inj hy) | cases hy)
   ·rw [lookup_cons_ne q] at hy; exact ⟨q,hy⟩
  refine ⟨ad,fun y ds hy=>?_,fun y z ds es hy hz hne=>h2 y z ds es (key y ds hy).2 (key z es hz).2 hne⟩
  obtain ⟨q,hy'⟩:=key y ds hy
  obtain ⟨a1,a2,a3,a4⟩:=h1 y ds hy'
  exact ⟨X.other _ _ q a1,X.owns _ _ a2,a3,a4⟩
theorem Stored.own {x:Str} {a:Addr} {ds:List PyData} {s':Shared} (X:Stored K R G sc env x (.ref a) S Φ s s') (I:Inv K R G sc env ρ S Φ s) (ho:Owns Φ s.heap a ds) (hfp:¬ R.fp S a) (hG:G.s.heap.get? a = none)
  (hap:∀ y es b,ρ.lookup y = some (.own es)→VarIs K env s.heap y (.ref b)→b≠a):Inv K R G sc env ((x,.own ds) :: ρ) S Φ s':=by
 refine ⟨I.base,X.froz,I.scp,I.kind,I.globs,I.blts,X.ns,I.nsΦ,I.nsW,I.nsG,fun y c hc=>⟨X.cel y c hc,(I.cel y c hc).2⟩,I.celG,I.celA,I.celD,fun y d' hy=>?_,?_,X.rsc,X.step0,I.fpG,X.frs I⟩
 ·by_cases q:y = x
  ·subst q; rw [lookup_cons_self] at hy; (first | exact dNS hy | exact dSN hy | (obtain rfl:=Option.some.inj hy) | cases hy)
  ·rw [lookup_cons_ne q] at hy
   obtain ⟨u,h1,h2⟩:=I.vals y d' hy
   exact ⟨u,X.other y u q h1,h2⟩
 ·obtain ⟨ad,h1,h2⟩:=I.owns
  refine ⟨fun y=>if y = x then a else ad y,fun y ds' hy=>?_,fun y z ds₁ ds₂ hy hz hne=>?_⟩
  ·by_cases q:y = x
   ·subst q; rw [lookup_cons_self] at hy; (first | exact dNS hy | exact dSN hy | (obtain rfl:=Option.some.inj hy) | cases hy)
    simp only [if_true]
    exact ⟨X.self,X.owns _ _ ho,hfp,hG⟩
   ·rw [lookup_cons_ne q] at hy
    obtain ⟨a1,a2,a3,a4⟩:=h1 y ds' hy
    simp only [q,if_false]
    exact ⟨X.other _ _ q a1,X.owns _ _ a2,a3,a4⟩
  ·by_cases q:y = x
   ·subst q
    have qz:z≠y:=Ne.symm hne
    rw [lookup_cons_ne qz] at hz
    simp only [if_true,qz,if_false]
    exact fun e=>hap z ds₂ (ad z) hz (h1 z ds₂ hz).1 e.symm
   ·rw [lookup_cons_ne q] at hy
    simp only [q,if_false]
    by_cases qz:z = x
    ·subst qz
     simp only [if_true]
     exact hap y ds₁ (ad y) hy (h1 y ds₁ hy).1
    ·rw [lookup_cons_ne qz] at hz
     simp only [qz,if_false]
     exact h2 y z ds₁ ds₂ hy hz hne
noncomputable def Sub (ρ₁ ρ₂:Rho):Prop:=∀ x sl,ρ₁.lookup x = some sl→ρ₂.lookup x = some sl
noncomputable def SubL (ρ₂:Rho):Rho→Prop
 | []=>True
 | (x,sl) :: r=>ρ₂.lookup x = some sl∧SubL ρ₂ r
theorem SubL.sub {ρ₂:Rho}:∀ {ρ₁:Rho},SubL ρ₂ ρ₁→Sub ρ₁ ρ₂
 | [],_,_,_,h=>by cases h
 | (x,sl) :: r,⟨h1,h2⟩,y,sl',h=>by
  by_cases q:y = x
  ·subst q; rw [lookup_cons_self] at h; (first | (obtain rfl:=Option.some.inj h) | cases h); exact h1
  ·rw [lookup_cons_ne q] at h; exact SubL.sub h2 y sl' h
theorem Sub.refl (ρ:Rho):Sub ρ ρ:=fun o9 o9 h=>h
theorem Inv.sub {ρ₁:Rho} (I:Inv K R G sc env ρ S Φ s) (h:Sub ρ₁ ρ):Inv K R G sc env ρ₁ S Φ s :=
 ⟨I.base,I.froz,I.scp,I.kind,I.globs,I.blts,I.ns,I.nsΦ,I.nsW,I.nsG,I.cel,I.celG,I.celA,I.celD,fun x d e=>I.vals x d (h _ _ e),
  let ⟨ad,h1,h2⟩:=I.owns; ⟨ad,fun x ds e=>h1 x ds (h _ _ e),fun x y ds es e e'=>h2 x y ds es (h _ _ e) (h _ _ e')⟩,I.rsc,I.step0,I.fpG,I.frs⟩
end
theorem heap_size_none (h:Heap):h.get? h.objs.size = none:=by
 cases e:h.get? h.objs.size with
 | none=>rfl
 | some o=>exact absurd (Heap.lt_size e) (Nat.lt_irrefl _)
noncomputable def RepDs (Φ:Fz):List D→List Value→Prop
 | [],vs=>vs = []
 | d :: l,vs=>∃ v r,vs = v :: r∧Rep Φ d v∧RepDs Φ l r
noncomputable def WReps (Φ:Fz) (h:Heap) (W:Addr→Prop):List D→List Value→Prop
 | [],vs=>vs = []
 | d :: l,vs=>∃ v r,vs = v :: r∧WRep Φ h W d v∧WReps Φ h W l r
theorem RepDs.reps {Φ:Fz} {l:List PyData}:∀ {vs:List Value},RepDs Φ (l.map D.py) vs→Reps Φ l vs:=by
 induction l with
 | nil =>
  exact fun h=>h
 | cons d l ih =>
  rintro vs ⟨v,r,e,h1,h2⟩
  exact ⟨v,r,e,h1,ih h2⟩
noncomputable def OpF (K:Kx) (A:Around) (Φ:Fz) (s:Shared) (t:Sem Value) (ds:List PyData):Prop :=
 ∀ (Q:Value→Shared→Prop) (E:Value→Shared→Prop),(∀ a Φ' s',Step NoW Φ s Φ' s'→Owns Φ' s'.heap a ds→s.heap.get? a = none→Q (.ref a) s')→wpAny K.M A t Q E s
theorem heap_none_of_step {W:Addr→Prop} {Φ Φ':Fz} {s s':Shared} {a:Addr} (st:Step W Φ s Φ' s') (h:s'.heap.get? a = none):s.heap.get? a = none:=by
 cases q:s.heap.get? a with
 | none=>rfl
 | some o=>obtain ⟨o',e,_⟩:=st.keep a o q; rw [h] at e; (first | exact dNS e | exact dSN e | (obtain rfl:=Option.some.inj e) | cases e)
theorem fp_fresh {K:Kx} {R:Rsc} {G:Ent} {sc:Scope} {env:Env} {ρ:Rho} {S:R.σ} {Φ:Fz} {s:Shared} (I:Inv K R G sc env ρ S Φ s) {a:Addr} (h:s.heap.get? a = none):¬ R.fp S a:=fun q=>by
 obtain ⟨_,o,e,_⟩:=R.there I.rsc q; rw [h] at e; (first | exact dNS e | exact dSN e | (obtain rfl:=Option.some.inj e) | cases e)
section
variable (K:Kx) (R:Rsc) (G:Ent) (sc:Scope) (env:Env) (ρ:Rho) (S:R.σ) (Φ:Fz) (s:Shared)
inductive PEs (Q:List D→R.σ→Prop) (vs:List Value) (s':Shared):Prop
 | mk (Φ':Fz) (S':R.σ) (ds:List D) (a:After K R G sc env ρ S Φ s S' Φ' s') (r:RepDs Φ' ds vs) (q:Q ds S')
inductive PRs (Q:List D→R.σ→Prop) (vs:List Value) (s':Shared):Prop
 | mk (Φ':Fz) (S':R.σ) (ds:List D) (a:After K R G sc env ρ S Φ s S' Φ' s') (r:WReps Φ' s'.heap (R.fp S') ds vs) (q:Q ds S')
end
section
variable (n:Nat) (K:Kx) (R:Rsc) (sc:Scope) (ρ:Rho) (S:R.σ) (es:List Expr)
noncomputable def WEs (Q:List D→R.σ→Prop):Prop :=
 ∀ pos A G env Φ s,OkayG n A G→Inv K R G sc env ρ S Φ s →
  wpAny K.M A (spliced (backTo pos (starEach es env))) (PEs K R G sc env ρ S Φ s Q) (fun o9 o9=>False) s
noncomputable def WRs (Q:List D→R.σ→Prop):Prop :=
 ∀ pos A G env Φ s,OkayG n A G→Inv K R G sc env ρ S Φ s →
  wpAny K.M A (spliced (backTo pos (starEach es env))) (PRs K R G sc env ρ S Φ s Q) (fun o9 o9=>False) s
end
section
variable {n:Nat} {K:Kx} {R:Rsc} {sc:Scope} {ρ:Rho} {S:R.σ}
theorem wes_nil {Q:List D→R.σ→Prop} (q:Q [] S):WEs n K R sc ρ S [] Q:=fun pos A G env Φ s ok I=>spliced_nil ⟨Φ,S,[],.refl I,rfl,q⟩
theorem wrs_nil {Q:List D→R.σ→Prop} (q:Q [] S):WRs n K R sc ρ S [] Q:=fun pos A G env Φ s ok I=>spliced_nil ⟨Φ,S,[],.refl I,rfl,q⟩
theorem wes_cons {e:Expr} {rest:List Expr} {Q:List D→R.σ→Prop} (h:WE n K R sc ρ S e fun d S₁=>WEs n K R sc ρ S₁ rest fun ds S₂=>Q (d :: ds) S₂)
  (he:∀ env,starEach (e :: rest) env = (false,eval e env) :: starEach rest env:=by intro o9; rfl):WEs n K R sc ρ S (e :: rest) Q:=fun pos A G env Φ s ok I=>by
 rw [he env]
 show wpAny _ _ (spliced ((false,eval e env) :: backTo pos (starEach rest env))) _ _ _
 exact spliced_cons (wpAny_mono (h A G env Φ s ok I) (fun v s₁ ⟨Φ₁,S₁,d,x₁,r₁,q₁⟩ =>
  wpAny_mono (q₁ pos A G env Φ₁ s₁ ok x₁.inv) (fun vs s₂ hp0=>by obtain ⟨Φ₂,S₂,ds,x₂,r₂,q⟩:=hp0; exact ⟨Φ₂,S₂,d :: ds,x₁.trans x₂,⟨v,vs,rfl,r₁.mono x₂.step.le,r₂⟩,q⟩) fun o9 o9 x=>x) fun o9 o9 x=>x)
theorem wrs_cons {e:Expr} {rest:List Expr} {Q:List D→R.σ→Prop} (h:WR n K R sc ρ S e fun d S₁=>WRs n K R sc ρ S₁ rest fun ds S₂=>Q (d :: ds) S₂)
  (he:∀ env,starEach (e :: rest) env = (false,eval e env) :: starEach rest env:=by intro o9; rfl):WRs n K R sc ρ S (e :: rest) Q:=fun pos A G env Φ s ok I=>by
 rw [he env]
 show wpAny _ _ (spliced ((false,eval e env) :: backTo pos (starEach rest env))) _ _ _
 exact spliced_cons (wpAny_mono (h A G env Φ s ok I) (fun v s₁ ⟨Φ₁,S₁,d,x₁,r₁,q₁⟩ =>
  wpAny_mono (q₁ pos A G env Φ₁ s₁ ok x₁.inv) (fun vs s₂ hp0=>by obtain ⟨Φ₂,S₂,ds,x₂,r₂,q⟩:=hp0; exact ⟨Φ₂,S₂,d :: ds,x₁.trans x₂,⟨v,vs,rfl,(r₁.weakW fun a h=>.inl h:WRep _ _ (R.fp S₁) _ _).step x₂.step x₂.fp,r₂⟩,q⟩) fun o9 o9 x=>x) fun o9 o9 x=>x)
theorem we_tuple {es:List Expr} {k:Nat} {pos:Pos} {Q:D→R.σ→Prop} (h:WEs n K R sc ρ S es (AsL fun l=>Q (.tup l))):WE n K R sc ρ S (.Tuple es k pos) Q :=
 fun A G env Φ s ok I=>Tuple_ (wpAny_mono (h pos A G env Φ s ok I) (fun vs s₁ hp0=>by
  obtain ⟨Φ₁,S₁,ds,x₁,r,l,e,hl,q⟩:=hp0
  subst e
  have r:=r.reps
  have hlen:=r.length
  refine wpAny_newObj_type (T:="tuple") (data:=.seq vs.toArray) ?_ (by show vs.toArray.size≤sizeLine; rw [List.size_toArray,hlen]; exact hl)
  have hn:s₁.heap.get? s₁.heap.objs.size = none:=heap_size_none _
  have st:=Step.of_keeps_new (tk:=s₁.toks) (dr:=s₁.drawn) x₁.inv.froz (fun b o e=>Heap.get?_push_of_some (h:=s₁.heap) { cls:=.type "tuple",data:=.seq vs.toArray } e) hn (Heap.get?_push_size _ rfl)
  refine ⟨_,S₁,.tup l,x₁.pure st,?_,q⟩
  exact ⟨_,_,_,_,rfl,Fz.add_self ..,⟨rfl,rfl,rfl⟩,rfl,r.mono st.le⟩) fun o9 o9 x=>x)
theorem wf_list {es:List Expr} {pos:Pos} {Q:List PyData→R.σ→Prop} (h:WEs n K R sc ρ S es (AsL Q)):WF n K R sc ρ S (.List es pos) Q :=
 fun A G env Φ s ok I=>List_ (wpAny_mono (h pos A G env Φ s ok I) (fun vs s₁ hp0=>by
  obtain ⟨Φ₁,S₁,ds,x₁,r,l,e,hl,q⟩:=hp0
  subst e
  have r:=r.reps
  have hlen:=r.length
  refine wpAny_newObj_type (T:="list") (data:=.seq vs.toArray) ?_ (by show vs.toArray.size≤sizeLine; rw [List.size_toArray,hlen]; exact hl)
  have hn:s₁.heap.get? s₁.heap.objs.size = none:=heap_size_none _
  have st:Step NoW Φ₁ s₁ Φ₁ { s₁ with heap:=s₁.heap.push { cls:=.type "list",data:=.seq vs.toArray } }:=Step.of_keeps (tk:=s₁.toks) (dr:=s₁.drawn) x₁.inv.froz (fun b o e=>Heap.get?_push_of_some (h:=s₁.heap) _ e)
  refine ⟨Φ₁,S₁,l,s₁.heap.objs.size,x₁.pure st,rfl,⟨?_,_,vs.toArray,_,Heap.get?_push_size _ rfl,⟨rfl,rfl,rfl⟩,rfl,r⟩,fp_fresh x₁.inv hn,heap_none_of_step x₁.step hn,q⟩
  cases z:Φ₁ s₁.heap.objs.size with
  | none=>rfl
  | some o=>have:=x₁.inv.froz _ o z; rw [hn] at this; (first | exact dNS this | exact dSN this | (obtain rfl:=Option.some.inj this) | cases this)) fun o9 o9 x=>x)
end
noncomputable def CallV (n:Nat) (K:Kx) (f:Value) (ds:List D) (d:D):Prop :=
 ∀ A Φ s W vs,Okay n A→Fzn K Φ s→WReps Φ s.heap W ds vs→OpV K A Φ s (call f vs) d
noncomputable def CallF (n:Nat) (K:Kx) (f:Value) (ds:List D) (l:List PyData):Prop :=
 ∀ A Φ s W vs,Okay n A→Fzn K Φ s→WReps Φ s.heap W ds vs→OpF K A Φ s (call f vs) l
inductive Plain:Value→Prop
 | b (id:String):Plain (.builtin id)
 | t (T:String):Plain (.type T)
section
variable {n:Nat} {K:Kx} {R:Rsc} {sc:Scope} {ρ:Rho} {S:R.σ}
theorem callPlain {A:Around} {E:Value→Shared→Prop} {s:Shared} {pos:Pos} {f:Value} {env:Env} {e:Expr} {rest:List Expr} {Q:Value→Shared→Prop} (hf:Plain f)
  (hp:(backTo pos (starEach (e :: rest) env)).any (·.1) = false) (he:starEach (e :: rest) env = (false,eval e env) :: starEach rest env)
  (h:wpAny K.M A (spliced (backTo pos (starEach (e :: rest) env))) (fun vs s'=>wpAny K.M A (call f vs) Q E s') E s) :
  wpAny K.M A (callWith pos f [] (backTo pos (starEach (e :: rest) env)) []) Q E s:=by
 have:wpAny K.M A (evalArgs f true (backTo pos (starEach (e :: rest) env)) []) (fun a s₁=>wpAny K.M A (call f ([] ++ a.pos) a.kw) Q E s₁) E s:=by
  rw [he] at h ⊢
  exact evalArgs_plain h
 cases hf with
 | b id=>exact callWith_builtin hp this
 | t T=>exact PyProof.Rows.callWith_type hp this
theorem star_cons {env:Env} {e:Expr} {rest:List Expr} (h:isStarred e = false):starEach (e :: rest) env = (false,eval e env) :: starEach rest env:=by
 cases e <;> first | rfl | exact Bool.noConfusion h
theorem plain_any {pos:Pos} {env:Env} {es:List Expr} (h:es.any isStarred = false):(backTo pos (starEach es env)).any (·.1) = false:=by
 induction es with
 | nil=>rfl
 | cons e rest ih =>
  have h':=Bool.or_eq_false_iff.mp h
  rw [star_cons h'.1]
  exact ih h'.2
theorem we_call {f:Str} {fv:Value} {fp pos:Pos} {e:Expr} {rest:List Expr} {Q:D→R.σ→Prop} (hf:K.gl f = some fv)
  (h:WRs n K R sc ρ S (e :: rest) fun ds=>Of (CallV n K fv ds) Q) (hpl:Plain fv) (hk:sc.names.lookup f = some .globalImplicit:=by rfl)
  (hs:(e :: rest).any isStarred = false:=by rfl) (hd:(f == ("__debug__":Str)) = false:=by rfl):WE n K R sc ρ S (.Call (.Name f fp) (e :: rest) [] pos) Q :=
 fun A G env Φ s ok I=>by
  show wpAny _ _ (do callWith pos (← eval (.Name f fp) env) [] (backTo pos (starEach (e :: rest) env)) []) _ _ _
  refine wpAny_bind ?_
  refine wpAny_Name (loads I (glob_var I.scp hf hk) ?_) hd
  have hs':isStarred e = false:=(Bool.or_eq_false_iff.mp hs).1
  refine callPlain hpl (plain_any hs) (star_cons hs') (wpAny_mono (h pos A G env Φ s ok I) (fun vs s₁ hp0=>?_) fun o9 o9 x=>x.elim)
  obtain ⟨Φ₁,S₁,ds,x₁,r,d,hc,q⟩:=hp0
  exact hc A Φ₁ s₁ _ vs ok.toOkay x₁.inv.fzn r _ _ fun w Φ₂ s₂ st r₂=>⟨Φ₂,S₁,d,x₁.pure st,r₂,q⟩
theorem wf_call {f:Str} {fv:Value} {fp pos:Pos} {e:Expr} {rest:List Expr} {Q:List PyData→R.σ→Prop} (hf:K.gl f = some fv)
  (h:WRs n K R sc ρ S (e :: rest) fun ds=>Of (CallF n K fv ds) Q) (hpl:Plain fv) (hk:sc.names.lookup f = some .globalImplicit:=by rfl)
  (hs:(e :: rest).any isStarred = false:=by rfl) (hd:(f == ("__debug__":Str)) = false:=by rfl):WF n K R sc ρ S (.Call (.Name f fp) (e :: rest) [] pos) Q :=
 fun A G env Φ s ok I=>by
  show wpAny _ _ (do callWith pos (← eval (.Name f fp) env) [] (backTo pos (starEach (e :: rest) env)) []) _ _ _
  refine wpAny_bind ?_
  refine wpAny_Name (loads I (glob_var I.scp hf hk) ?_) hd
  have hs':isStarred e = false:=(Bool.or_eq_false_iff.mp hs).1
  refine callPlain hpl (plain_any hs) (star_cons hs') (wpAny_mono (h pos A G env Φ s ok I) (fun vs s₁ hp0=>?_) fun o9 o9 x=>x.elim)
  obtain ⟨Φ₁,S₁,ds,x₁,r,l,hc,q⟩:=hp0
  exact hc A Φ₁ s₁ _ vs ok.toOkay x₁.inv.fzn r _ _ fun a Φ₂ s₂ st o hn=>⟨Φ₂,S₁,l,a,x₁.pure st,rfl,o,fp_fresh x₁.inv hn,heap_none_of_step x₁.step hn,q⟩
theorem WReps.one {Φ:Fz} {h:Heap} {W:Addr→Prop} {d:D} {vs:List Value} (x:WReps Φ h W [d] vs):∃ v,vs = [v]∧WRep Φ h W d v:=by
 obtain ⟨v,r,rfl,h1,h2⟩:=x; cases h2; exact ⟨v,rfl,h1⟩
theorem WReps.two {Φ:Fz} {h:Heap} {W:Addr→Prop} {d e:D} {vs:List Value} (x:WReps Φ h W [d,e] vs):∃ v u,vs = [v,u]∧WRep Φ h W d v∧WRep Φ h W e u:=by
 obtain ⟨v,r,rfl,h1,h2⟩:=x
 obtain ⟨u,rfl,h3⟩:=h2.one
 exact ⟨v,u,rfl,h1,h3⟩
theorem WRep.lst' {Φ:Fz} {h:Heap} {W:Addr→Prop} {ds:List PyData} {v:Value} (x:WRep Φ h W (.lst ds) v) (hf:∀ a o,Φ a = some o→h.get? a = some o):∃ a vs,v = .ref a∧h.IsList a vs∧Reps Φ ds vs.toList:=by
 obtain ⟨a,rfl,l⟩:=x.lst hf
 obtain ⟨vs,h1,h2⟩:=l.isList
 exact ⟨a,vs,rfl,h1,h2⟩
theorem WRep.tup' {Φ:Fz} {h:Heap} {W:Addr→Prop} {ds:List PyData} {v:Value} (x:WRep Φ h W (.tup ds) v) (hf:∀ a o,Φ a = some o→h.get? a = some o):∃ a vs,v = .ref a∧IsTup h a vs∧Reps Φ ds vs.toList:=by
 have:=x.nolist (fun l e=>by cases e)
 obtain ⟨a,o,vs,n,rfl,h1,h2,h3,h4⟩:=this
 exact ⟨a,vs,rfl,⟨o,hf _ _ h1,h2.1,n,h3⟩,h4⟩
theorem size_eq {Φ:Fz} {ds:List PyData} {vs:Array Value} (h:Reps Φ ds vs.toList):vs.size = ds.length:=by
 have:=h.length; simpa using this
theorem cv_len {l:List PyData} (hl:l.length < 2 ^ 62):CallV n K (.builtin "len") [.lst l] (.int l.length):=fun A Φ s W vs ok F rr Q E h=>by
 obtain ⟨v,rfl,r⟩:=rr.one
 obtain ⟨a,vs,rfl,hi,hr⟩:=r.lst' F.froz
 have hz:=size_eq hr
 exact call_len_list hi (by rw [hz]; (first | lia | omega)) (h _ Φ _ (.tok F.froz) ⟨_,by rw [hz]⟩)
theorem cf_list {l:List PyData} (hl:l.length≤sizeLine):CallF n K (.type "list") [.lst l] l:=fun A Φ s W vs ok F rr Q E h=>by
 obtain ⟨v,rfl,r⟩:=rr.one
 obtain ⟨a,vs,rfl,⟨o,ho,hc,k,hd⟩,hr⟩:=r.lst' F.froz
 have hz:=size_eq hr
 refine call_list_seq (hsz:=by first | exact Nat.succ_pos _ | omega) a (.inl rfl) ho hc hd fun h' c' hk hD=>?_
 have hn:=heap_size_none s.heap
 have st:Step NoW Φ s Φ { s with heap:=h' }:=Step.of_keeps (tk:=s.toks) (dr:=s.drawn) F.froz hk
 refine h _ Φ _ st ⟨?_,_,vs,_,hD,⟨rfl,rfl,rfl⟩,rfl,hr⟩ hn
 cases z:Φ s.heap.objs.size with
 | none=>rfl
 | some o=>have:=F.froz _ o z; rw [hn] at this; (first | exact dNS this | exact dSN this | (obtain rfl:=Option.some.inj this) | cases this)
theorem cv_range1 {b:Int}:CallV n K (.type "range") [.int b] (.rng 0 b 1):=fun A Φ s W vs ok F rr Q E h=>by
 obtain ⟨v,rfl,r⟩:=rr.one
 obtain ⟨t,rfl⟩:=r.int
 refine call_range_1 ?_
 exact h _ _ _ (Step.of_keeps_new (tk:=s.toks + 1 + 1) (dr:=s.drawn) F.froz (fun b o e=>Heap.get?_push_of_some (h:=s.heap) _ e) (heap_size_none _) (Heap.get?_push_size _ rfl)) ⟨_,_,_,_,rfl,Fz.add_self ..⟩
theorem cv_range2 {a b:Int}:CallV n K (.type "range") [.int a,.int b] (.rng a b 1):=fun A Φ s W vs ok F rr Q E h=>by
 obtain ⟨v,u,rfl,r,r'⟩:=rr.two
 obtain ⟨t,rfl⟩:=r.int
 obtain ⟨t',rfl⟩:=r'.int
 refine call_range_2 ?_
 exact h _ _ _ (Step.of_keeps_new (tk:=s.toks + 1) (dr:=s.drawn) F.froz (fun b o e=>Heap.get?_push_of_some (h:=s.heap) _ e) (heap_size_none _) (Heap.get?_push_size _ rfl)) ⟨_,_,_,_,rfl,Fz.add_self ..⟩
end
noncomputable def Places (env:Env) (xs:List Str):Addr→Prop:=fun a=>a = env.locals∨∃ x∈xs,env.cells.lookup x = some a
noncomputable def Asg (n:Nat) (K:Kx) (R:Rsc) (sc:Scope) (t:Expr) (d:D) (xs:List Str) (f:Rho→Rho):Prop :=
 ∀ A G env ρ S Φ s v,OkayG n A G→(∀ x∈xs,G.mine x = true)→Inv K R G sc env ρ S Φ s→Rep Φ d v→∀ (Q:Unit→Shared→Prop) (E:Value→Shared→Prop),
  (∀ s',Inv K R G sc env (f ρ) S Φ s'→Step (Places env xs) Φ s Φ s'→(∀ y u,y∉xs→VarIs K env s.heap y u→VarIs K env s'.heap y u)→Q () s')→wpAny K.M A (assign t env v) Q E s
noncomputable def isVar (sc:Scope) (x:Str):Bool:=match sc.names.lookup x with
 | some .local | some .cell=>true
 | _=>false
theorem isVar_or {sc:Scope} {x:Str} (h:isVar sc x = true):sc.names.lookup x = some .local∨sc.names.lookup x = some .cell:=by
 unfold isVar at h
 generalize sc.names.lookup x = q at h ⊢
 cases q with
 | none=>exact Bool.noConfusion h
 | some k=>cases k <;> first | exact .inl rfl | exact .inr rfl | exact Bool.noConfusion h
section
variable {n:Nat} {K:Kx} {R:Rsc} {sc:Scope}
theorem asg_name {x:Str} {p:Pos} {d:D} (hx:isVar sc x = true):Asg n K R sc (.Name x p) d [x] (fun ρ=>(x,.val d) :: ρ) :=
 fun A G env ρ S Φ s v ok hm I r Q E h=>wpAny_assign_Name (stored I (isVar_or hx) (hm x (.head _)) fun s' X=>h s' (X.val I r) (X.step.weaken fun a ha=>by
  rcases ha with h | h
  ·exact .inl h
  ·exact .inr ⟨x,.head _,h⟩) fun y u hy hv=>X.other y u (fun q=>hy (by simp [q])) hv)
theorem Step.ext {s:Shared} {Φ:Fz} {h':Heap} (hf:∀ a o,Φ a = some o→s.heap.get? a = some o) (hk:Heap.ExtBut s.heap.objs.size s.heap h'):Step NoW Φ s Φ { s with heap:=h' } :=
 Step.of_keeps (tk:=s.toks) (dr:=s.drawn) hf fun b o e=>hk b o (Nat.ne_of_lt (Heap.lt_size e)) e
theorem asg_pair {x y:Str} {px py p:Pos} {k:Nat} {d e:PyData} (hx:isVar sc x = true) (hy:isVar sc y = true) (hpos:0 < n:=by first | exact Nat.succ_pos _ | omega) :
  Asg n K R sc (.Tuple [.Name x px,.Name y py] k p) (.tup [d,e]) [x,y] (fun ρ=>(y,.val (.py e)) :: (x,.val (.py d)) :: ρ) :=
 fun A G env ρ S Φ s v ok hm I r Q E h=>by
  rw [PyProof.Rows.assign_Tuple]
  refine wpAny_bind (wpAny_standAt ?_)
  obtain ⟨a,o,vs,m,rfl,h1,h2,h3,h4⟩:=r
  have hz:=size_eq h4
  obtain ⟨v1,r1,e1,rep1,v2,r2,e2,rep2,e3⟩:=h4
  subst e2 e3
  refine wpAny_unpack_tuple (ok.hd hpos) ⟨o,I.froz _ _ h1,h2.1,m,h3⟩ (by rw [hz]; rfl) rfl fun h' hk=>?_
  have st:=Step.ext I.froz hk
  have I':=I.pure st
  rw [e1]
  show wpAny K.M A (assignInOrder [assign (.Name x px) env,assign (.Name y py) env] [v1,v2]) Q E { s with heap:=h' }
  refine wpAny_bind (wpAny_holding (asg_name (n:=n) (K:=K) (R:=R) (sc:=sc) (d:=.py d) hx A G env ρ S Φ _ v1 ok (fun z hz=>hm z (by simp at hz; simp [hz])) I' rep1 _ _ fun s₁ I₁ st₁ ot₁=>?_))
  show wpAny K.M A (assignInOrder [assign (.Name y py) env] [v2]) Q E s₁
  refine wpAny_bind (wpAny_holding (asg_name (n:=n) (K:=K) (R:=R) (sc:=sc) (d:=.py e) hy A G env _ S Φ _ v2 ok (fun z hz=>hm z (by simp at hz; simp [hz])) I₁ rep2 _ _ fun s₂ I₂ st₂ ot₂=>?_))
  refine wpAny_pure (h s₂ I₂ ?_ fun z u hz hv=>ot₂ z u (fun q=>hz (by simp at q; simp [q])) (ot₁ z u (fun q=>hz (by simp at q; simp [q])) (hv.of_step st (fun h=>h.elim) fun o9 o9 o9 h=>h.elim)))
  have w1:∀ a,Places env [x] a→Places env [x,y] a:=fun a ha=>by
   rcases ha with h | ⟨z,hz,h⟩
   ·exact .inl h
   ·exact .inr ⟨z,by simp at hz; simp [hz],h⟩
  have w2:∀ a,Places env [y] a→Places env [x,y] a:=fun a ha=>by
   rcases ha with h | ⟨z,hz,h⟩
   ·exact .inl h
   ·exact .inr ⟨z,by simp at hz; simp [hz],h⟩
  exact ((st.weaken (W':=Places env [x,y]) fun o9 h=>h.elim).trans st₁ fun a ha=>.inl (w1 a ha)).trans st₂ fun a ha=>.inl (w2 a ha)
end
noncomputable def notKeeper (T:String):Bool:=!["enumerate", "zip", "dict_itemiterator", "dict_reverseitemiterator", "odict_iterator", "itertools.zip_longest", "itertools.pairwise"].contains T
noncomputable def Pin (R:Rsc) (S:R.σ) (b:Addr) (o:Obj):Prop:=∀ Φ h,R.ok S Φ h→h.get? b = some o
set_option genInjectivity false in
inductive Sk where
 | frz
 | any
 | pin (b:Addr)
structure Src (K:Kx) (W:Addr→Prop) (Φ₀:Fz) (I:Addr) (ds:List D) (fz:Sk) (fp:List Addr) (St:Nat→Heap→Prop):Prop where
 walks:∀ A:Around,A.handled = none→Walks K.prog K.w A I fp [I] ds.length (fun i v=>∃ d,ds[i]? = some d∧Rep Φ₀ d v) St
 kind:∀ i h,St i h→∃ o T vs,h.get? I = some o∧o.cls = .type T∧notKeeper T = true∧o.data = .fields vs
 nofr:∀ i h,St i h→∀ b∈fp,∃ o,h.get? b = some o∧o.cls≠.type "frame"
set_option tactic.hygienic true in
theorem letGo_ok {K:Kx} {A:Around} {E:Value→Shared→Prop} {s:Shared} {t:Expr} {I:Addr} {v:Value} {o:Obj} {T:String} {Q:Unit→Shared→Prop}
  (ho:s.heap.get? I = some o) (hc:o.cls = .type T) (hT:notKeeper T = true) (h:Q () s):wpAny K.M A (letOwnedTupleGo t (.ref I) v) Q E s:=by
 have key:∀ a,wpAny K.M A (do
   let o ← load I
   match o.cls,o.data with
   | .type n,.fields vs =>
    if ["enumerate", "zip", "dict_itemiterator", "dict_reverseitemiterator", "odict_iterator", "itertools.zip_longest", "itertools.pairwise"].contains n && vs[0]? == some (rawInt a) then
     rule "for.unpacks-the-owned-tuple"
     updateField I 0 .none
   | _,_=>pure ()) Q E s:=fun a=>by
  refine wpAny_bind (wpAny_load ho ?_)
  rw [hc]
  have hf:["enumerate", "zip", "dict_itemiterator", "dict_reverseitemiterator", "odict_iterator", "itertools.zip_longest", "itertools.pairwise"].contains T = false:=Bool.not_eq_true' _ ▸ hT
  generalize o.data = dd
  cases dd
  case fields vs =>
   dsimp only
   rw [hf,Bool.false_and,if_neg Bool.false_ne_true]
   exact wpAny_pure h
  all_goals exact wpAny_pure h
 cases t
 case Tuple=>cases v <;> first | exact key _ | exact wpAny_pure h
 case List=>cases v <;> first | exact key _ | exact wpAny_pure h
 all_goals exact wpAny_pure h
theorem walks_imp {prog:Program} {w:World} {A:Around} {I:Addr} {fp wr:List Addr} {n:Nat} {P P':Nat→Value→Prop} {St:Nat→Heap→Prop} (W:Walks prog w A I fp wr n P St) (h:∀ i v,i < n→P i v→P' i v) :
  Walks prog w A I fp wr n P' St where
 sub:=W.sub
 frame:=W.frame
 item:=fun i s Q E hi st hQ=>W.item i s Q E hi st fun v h' tk p=>hQ v h' tk (h i v hi p)
 done:=W.done
 self:=W.self
theorem Reps.getV {Φ:Fz} {l:List PyData}:∀ {vs:List Value} {i:Nat} {v:Value},Reps Φ l vs→vs[i]? = some v→∃ d,l[i]? = some d∧RepP Φ d v:=by
 induction l with
 | nil =>
  rintro o9 o9 o9 h e
  (first | subst h | (cases (show _ = _ from h))); simp at e
 | cons d l ih =>
  rintro vs i v h e
  obtain ⟨u,r,rfl,h2,h3⟩:=h
  cases i with
  | zero=>simp at e; subst e; exact ⟨d,rfl,h2⟩
  | succ i=>simpa using ih h3 (by simpa using e)
noncomputable def Held (R:Rsc) (S:R.σ) (Φ:Fz) (h₀:Heap) (fz:Sk) (b:Addr):Prop:=(∃ o,Φ b = some o)∨(fz = .any∧(∃ o,h₀.get? b = some o)∧¬ R.fp S b)∨(fz = .pin b∧∃ o,Pin R S b o)
structure SrcAt (K:Kx) (R:Rsc) (S:R.σ) (Φ:Fz) (h₀ h:Heap) (I:Addr) (ds:List D) (fz:Sk) (fp:List Addr) (St:Nat→Heap→Prop):Prop where
 src:Src K (R.fp S) Φ I ds fz fp St
 st:St 0 h
 fp:∀ b∈fp,b = I∨Held R S Φ h₀ fz b
section
variable (K:Kx) (R:Rsc) (G:Ent) (sc:Scope) (env:Env) (ρ:Rho) (S:R.σ) (Φ:Fz) (s:Shared) (fz:Sk)
inductive PI (Q:List D→R.σ→Prop) (it:Value) (s₂:Shared):Prop
 | mk (Φ':Fz) (S':R.σ) (ds:List D) (I:Addr) (fp:List Addr) (St:Nat→Heap→Prop) (a:After K R G sc env ρ S Φ s S' Φ' s₂) (e:it = .ref I) (n:s.heap.get? I = none) (f:Φ' I = none) (w:¬ R.fp S' I) (at_:SrcAt K R S' Φ' s.heap s₂.heap I ds fz fp St) (q:Q ds S')
end
section
variable (n:Nat) (K:Kx) (R:Rsc) (sc:Scope) (ρ:Rho) (S:R.σ) (e:Expr) (fz:Sk)
noncomputable def WI (Q:List D→R.σ→Prop):Prop :=
 ∀ A G env Φ s,OkayG n A G→Inv K R G sc env ρ S Φ s →
  wpAny K.M A (eval e env) (fun x s₁=>wpAny K.M A (pyIter x) (PI K R G sc env ρ S Φ s fz Q) (fun o9 o9=>False) s₁) (fun o9 o9=>False) s
end
section
variable {n:Nat} {K:Kx} {R:Rsc} {sc:Scope} {ρ:Rho} {S:R.σ} {e:Expr}
theorem none_of_fresh {Φ:Fz} {h:Heap} {a:Addr} (hf:∀ a o,Φ a = some o→h.get? a = some o) (hn:h.get? a = none):Φ a = none:=by
 cases z:Φ a with
 | none=>rfl
 | some o=>have:=hf _ o z; rw [hn] at this; (first | exact dNS this | exact dSN this | (obtain rfl:=Option.some.inj this) | cases this)
theorem src_list {Φ:Fz} {ax I:Addr} {items:Array Value} {ds:List PyData} {W:Addr→Prop} {fz:Sk} (hne:ax≠I) (hr:Reps Φ ds items.toList) :
  Src K W Φ I (ds.map D.py) fz [I,ax] (fun i h=>h.IsListIter I ax i∧h.IsList ax items) where
 walks:=fun A hh=>by
  have:=Walks.list (prog:=K.prog) (w:=K.w) hh I ax hne items
  rw [size_eq hr] at this
  rw [List.length_map]
  exact walks_imp this fun i v o9 hv=>by
   obtain ⟨d,h1,h2⟩:=hr.getV (i:=i) (v:=v) (by simpa using hv)
   exact ⟨.py d,by simp [h1],h2⟩
 kind:=fun i h st=>by
  obtain ⟨⟨o,h1,h2,h3⟩,_⟩:=st
  exact ⟨o,_,_,h1,h2,rfl,h3⟩
 nofr:=fun i h st b hb=>by
  obtain ⟨⟨o,h1,h2,h3⟩,o',h1',h2',_⟩:=st
  simp at hb
  rcases hb with rfl | rfl
  ·exact ⟨o,h1,by rw [h2]; decide⟩
  ·exact ⟨o',h1',by rw [h2']; decide⟩
theorem src_tuple {Φ:Fz} {ax I:Addr} {items:Array Value} {ds:List PyData} {W:Addr→Prop} {fz:Sk} (hne:ax≠I) (hr:Reps Φ ds items.toList) :
  Src K W Φ I (ds.map D.py) fz [I,ax] (fun i h=>h.IsTupleIter I ax i∧h.IsTuple ax items) where
 walks:=fun A hh=>by
  have:=Walks.tuple (prog:=K.prog) (w:=K.w) hh I ax hne items
  rw [size_eq hr] at this
  rw [List.length_map]
  exact walks_imp this fun i v o9 hv=>by
   obtain ⟨d,h1,h2⟩:=hr.getV (i:=i) (v:=v) (by simpa using hv)
   exact ⟨.py d,by simp [h1],h2⟩
 kind:=fun i h st=>by
  obtain ⟨⟨o,h1,h2,h3⟩,_⟩:=st
  exact ⟨o,_,_,h1,h2,rfl,h3⟩
 nofr:=fun i h st b hb=>by
  obtain ⟨⟨o,h1,h2,h3⟩,o',h1',h2',_⟩:=st
  simp at hb
  rcases hb with rfl | rfl
  ·exact ⟨o,h1,by rw [h2]; decide⟩
  ·exact ⟨o',h1',by rw [h2']; decide⟩
theorem step_push {Φ:Fz} {s:Shared} (o:Obj) (hf:∀ a o,Φ a = some o→s.heap.get? a = some o):Step NoW Φ s Φ { s with heap:=s.heap.push o } :=
 Step.of_keeps (tk:=s.toks) (dr:=s.drawn) hf fun b o' e=>Heap.get?_push_of_some o e
theorem wi_lst {Q:List D→R.σ→Prop} (h:WR n K R sc ρ S e (IsD D.lst fun ds=>Q (ds.map D.py))):WI n K R sc ρ S e .any Q :=
 fun A G env Φ s ok I=>wpAny_mono (h A G env Φ s ok I) (fun x s₁ hp0=>by
  obtain ⟨Φ₁,S₁,d,x₁,r,ds,e,q⟩:=hp0
  subst e
  obtain ⟨ax,items,rfl,hl,hr⟩:=r.lst' x₁.inv.froz
  have hn:=heap_size_none s₁.heap
  have hax:ax≠s₁.heap.objs.size:=by obtain ⟨o,ho,_⟩:=hl; exact Nat.ne_of_lt (Heap.lt_size ho)
  have st:=step_push { cls:=.type "list_iterator",data:=.fields #[.ref ax,.int 0 0] } x₁.inv.froz
  refine wpAny_pyIter_list hl ⟨Φ₁,S₁,ds.map D.py,_,_,_,x₁.pure st,rfl,heap_none_of_step x₁.step hn,none_of_fresh x₁.inv.froz hn,fp_fresh x₁.inv hn,⟨src_list hax hr,⟨⟨_,Heap.get?_push_size _ rfl,rfl,rfl⟩,hl.push _⟩,fun b hb=>?_⟩,q⟩
  simp at hb
  rcases hb with rfl | rfl
  ·exact .inl rfl
  ·refine .inr ?_
   rcases r with r | ⟨ds',a,e1,e2,ow,nw⟩
   ·obtain ⟨a,o,vs,m,e,h1,_⟩:=r
    cases e; exact .inl ⟨o,h1⟩
   ·cases e1; cases e2
    exact .inr (.inl ⟨rfl,Option.ne_none_iff_exists'.mp fun z=>nw (.inr z),fun q=>nw (.inl q)⟩)) fun o9 o9 x=>x.elim
theorem wi_lstF {Q:List D→R.σ→Prop} {fz:Sk} (h:WE n K R sc ρ S e (IsD D.lst fun ds=>Q (ds.map D.py))):WI n K R sc ρ S e fz Q :=
 fun A G env Φ s ok I=>wpAny_mono (h A G env Φ s ok I) (fun x s₁ hp0=>by
  obtain ⟨Φ₁,S₁,d,x₁,r,ds,e,q⟩:=hp0
  subst e
  obtain ⟨ax,o,items,m,rfl,h1,h2,h3,hr⟩:=r
  have hl:s₁.heap.IsList ax items:=⟨o,x₁.inv.froz _ _ h1,h2.1,m,h3⟩
  have hn:=heap_size_none s₁.heap
  have hax:ax≠s₁.heap.objs.size:=by obtain ⟨o,ho,_⟩:=hl; exact Nat.ne_of_lt (Heap.lt_size ho)
  have st:=step_push { cls:=.type "list_iterator",data:=.fields #[.ref ax,.int 0 0] } x₁.inv.froz
  refine wpAny_pyIter_list hl ⟨Φ₁,S₁,ds.map D.py,_,_,_,x₁.pure st,rfl,heap_none_of_step x₁.step hn,none_of_fresh x₁.inv.froz hn,fp_fresh x₁.inv hn,⟨src_list hax hr,⟨⟨_,Heap.get?_push_size _ rfl,rfl,rfl⟩,hl.push _⟩,fun b hb=>?_⟩,q⟩
  simp at hb
  rcases hb with rfl | rfl
  ·exact .inl rfl
  ·exact .inr (.inl ⟨o,h1⟩)) fun o9 o9 x=>x.elim
theorem wi_tup {Q:List D→R.σ→Prop} {fz:Sk} (h:WE n K R sc ρ S e (IsD D.tup fun ds=>Q (ds.map D.py))):WI n K R sc ρ S e fz Q :=
 fun A G env Φ s ok I=>wpAny_mono (h A G env Φ s ok I) (fun x s₁ hp0=>by
  obtain ⟨Φ₁,S₁,d,x₁,r,ds,e,q⟩:=hp0
  subst e
  obtain ⟨ax,o,items,m,rfl,h1,h2,h3,hr⟩:=r
  have hl:s₁.heap.IsTuple ax items:=⟨o,x₁.inv.froz _ _ h1,h2.1,m,h3⟩
  have hn:=heap_size_none s₁.heap
  have hax:ax≠s₁.heap.objs.size:=by obtain ⟨o,ho,_⟩:=hl; exact Nat.ne_of_lt (Heap.lt_size ho)
  have st:=step_push { cls:=.type "tuple_iterator",data:=.fields #[.ref ax,.int 0 0] } x₁.inv.froz
  refine wpAny_pyIter_tuple hl ⟨Φ₁,S₁,ds.map D.py,_,_,_,x₁.pure st,rfl,heap_none_of_step x₁.step hn,none_of_fresh x₁.inv.froz hn,fp_fresh x₁.inv hn,⟨src_tuple hax hr,⟨⟨_,Heap.get?_push_size _ rfl,rfl,rfl⟩,⟨o,Heap.get?_push_of_some _ (x₁.inv.froz _ _ h1),h2.1,m,h3⟩⟩,fun b hb=>?_⟩,q⟩
  simp at hb
  rcases hb with rfl | rfl
  ·exact .inl rfl
  ·exact .inr (.inl ⟨o,h1⟩)) fun o9 o9 x=>x.elim
noncomputable def rangeL (a b c:Int):List Int:=(List.range (Builtin.Range.rangeSize a b c).toNat).map fun i:Nat=>a + (i:Int) * c
theorem wi_rng {Q:List D→R.σ→Prop} {fz:Sk} (h:WE n K R sc ρ S e fun d S₁=>∃ a b c,d = .rng a b c∧Builtin.Range.small a b c = true∧Q ((rangeL a b c).map D.int) S₁):WI n K R sc ρ S e fz Q :=
 fun A G env Φ s ok I=>wpAny_mono (h A G env Φ s ok I) (fun x s₁ hp0=>by
  obtain ⟨Φ₁,S₁,d,x₁,r,a,b,c,e,hsm,q⟩:=hp0
  subst e
  obtain ⟨rr,t₁,t₂,t₃,rfl,h1⟩:=r
  have hn:=heap_size_none s₁.heap
  have st:=step_push { cls:=.type "range_iterator",data:=.fields #[rawInt a,rawInt (Builtin.Range.rangeSize a b c),rawInt c] } x₁.inv.froz
  have hsz:Builtin.Range.rangeSize a b c = ((Builtin.Range.rangeSize a b c).toNat:Int):=rangeSize_toNat a b c
  have hlen:((rangeL a b c).map D.int).length = (Builtin.Range.rangeSize a b c).toNat:=by simp [rangeL]
  refine wpAny_pyIter_range (x₁.inv.froz _ _ h1) hsm ⟨Φ₁,S₁,_,s₁.heap.objs.size,[s₁.heap.objs.size],fun i h=>IsRangeIter h s₁.heap.objs.size (a + (i:Nat) * c) (((Builtin.Range.rangeSize a b c).toNat:Int) - (i:Nat)) c,x₁.pure st,rfl,
   heap_none_of_step x₁.step hn,none_of_fresh x₁.inv.froz hn,fp_fresh x₁.inv hn,⟨⟨fun A hh=>?_,fun i h st=>?_,fun i h st b hb=>?_⟩,?_,fun b hb=>?_⟩,q⟩
  ·rw [hlen]
   refine walks_imp (Walks.range hh s₁.heap.objs.size a c _) fun i v hi ⟨t,e⟩=>⟨.int (a + (i:Int) * c),?_,?_⟩
   ·simp [rangeL,List.getElem?_range hi]
   ·exact ⟨t,e⟩
  ·exact ⟨_,_,_,st,rfl,rfl,rfl⟩
  ·simp at hb; subst hb; exact ⟨_,st,fun q=>absurd q (by show ¬ Value.type "range_iterator" = Value.type "frame"; decide)⟩
  ·show Heap.get? _ _ = some _
   rw [← hsz]
   simp only [Int.ofNat_zero,Int.zero_mul,Int.add_zero,Int.sub_zero]
   exact Heap.get?_push_size _ rfl
  ·simp at hb; exact .inl hb) fun o9 o9 x=>x.elim
end
noncomputable def clOf (env:Env):List (Str×NameKind)→List (Str×Addr)→List (Str×Addr)
 | [],acc=>acc
 | (n,k) :: r,acc=>if k == .free then clOf env r ((n,(env.cells.lookup n).getD 0) :: acc) else clOf env r acc
theorem clOf_cons {env:Env} {n:Str} {k:NameKind} {r:List (Str×NameKind)} {acc:List (Str×Addr)}:clOf env ((n,k) :: r) acc = if k == .free then clOf env r ((n,(env.cells.lookup n).getD 0) :: acc) else clOf env r acc:=rfl
theorem cellsFrom_cons {m:Nat} {n:Str} {k:NameKind} {r:List (Str×NameKind)} {acc:List (Str×Addr)}:cellsFrom m ((n,k) :: r) acc = if k == .cell then cellsFrom (m + 1) r ((n,m) :: acc) else cellsFrom m r acc:=rfl
theorem closure_go {env:Env} (f:Str×NameKind→List (Str×Addr)→Sem (ForInStep (List (Str×Addr))))
  (hf:∀ n k cs,f (n,k) cs = if k == .free then (do let a ← cellOf env n; pure (.yield ((n,a) :: cs))) else pure (.yield cs)) (names:List (Str×NameKind)) :
  ∀ (acc:List (Str×Addr)),(∀ y∈names,y.2 = .free→∃ c,env.cells.lookup y.1 = some c)→(forIn names acc f:Sem _) = pure (clOf env names acc):=by
 induction names with
 | nil=>exact fun o9 o9=>rfl
 | cons y r ih =>
  intro acc h
  obtain ⟨n,k⟩:=y
  rw [List.forIn_cons,hf,clOf_cons]
  by_cases hk:(k == NameKind.free) = true
  ·rw [if_pos hk,if_pos hk]
   obtain ⟨c,hc⟩:=h (n,k) (.head _) (eq_of_beq hk)
   have:cellOf env n = pure c:=by unfold cellOf; rw [hc]
   rw [this,show env.cells.lookup n = some c from hc]
   exact ih _ fun y hy=>h y (.tail _ hy)
  ·rw [if_neg hk,if_neg hk]
   exact ih acc fun y hy=>h y (.tail _ hy)
theorem closure_eq {env:Env} {scope:Scope} (h:∀ y∈scope.names,y.2 = .free→∃ c,env.cells.lookup y.1 = some c):closureFor scope env = pure (clOf env scope.names []):=by
 unfold closureFor
 have:=closure_go (env:=env) (fun x cs=>if x.2 == .free then (do let a ← cellOf env x.1; pure (.yield ((x.1,a) :: cs))) else pure (.yield cs)) (fun n k cs=>rfl) scope.names [] h
 show (forIn scope.names [] _ >>= fun r=>pure r) = _
 first
  | (rw [this]; rfl)
  | (refine Eq.trans (congrArg (· >>= fun r=>pure r) (Eq.trans ?_ this)) rfl; congr 1)
theorem clOf_mem {env:Env} {names:List (Str×NameKind)}:∀ {acc:List (Str×Addr)} {x:Str} {c:Addr},(clOf env names acc).lookup x = some c →
  acc.lookup x = some c∨((x,NameKind.free)∈names∧(env.cells.lookup x).getD 0 = c):=by
 induction names with
 | nil=>exact fun h=>.inl h
 | cons y r ih =>
  obtain ⟨n,k⟩:=y
  intro acc x c h
  rw [clOf_cons] at h
  by_cases hk:(k == NameKind.free) = true
  ·rw [if_pos hk] at h
   obtain rfl:k = .free:=eq_of_beq hk
   rcases ih h with h | h
   ·rcases lookup_cases h with ⟨rfl,e⟩ | ⟨_,h⟩
    ·exact .inr ⟨.head _,e⟩
    ·exact .inl h
   ·exact .inr ⟨.tail _ h.1,h.2⟩
  ·rw [if_neg hk] at h
   exact (ih h).imp_right fun h=>⟨.tail _ h.1,h.2⟩
theorem clOf_acc {env:Env} {names:List (Str×NameKind)}:∀ {acc:List (Str×Addr)} {x:Str},(acc.lookup x).isSome→((clOf env names acc).lookup x).isSome:=by
 induction names with
 | nil=>exact fun h=>h
 | cons y r ih =>
  intro acc x h
  rw [clOf_cons]
  by_cases hk:(y.2 == NameKind.free) = true
  ·rw [if_pos hk]; exact ih (lookup_isSome h)
  ·rw [if_neg hk]; exact ih h
theorem clOf_some {env:Env} {names:List (Str×NameKind)}:∀ {acc:List (Str×Addr)} {x:Str},(x,NameKind.free)∈names→((clOf env names acc).lookup x).isSome:=by
 induction names with
 | nil=>exact fun h=>nomatch h
 | cons y r ih =>
  intro acc x h
  rw [clOf_cons]
  rcases List.mem_cons.mp h with h | h
  ·subst h
   rw [if_pos (beq_self_eq_true _)]
   exact clOf_acc (by rw [lookup_cons_self]; rfl)
  ·by_cases hk:(y.2 == NameKind.free) = true
   ·rw [if_pos hk]; exact ih h
   ·rw [if_neg hk]; exact ih h
theorem cellsFrom_mem {names:List (Str×NameKind)}:∀ {h:Heap} {acc:List (Str×Addr)} {x:Str} {c:Addr},(cellsFrom h.objs.size names acc).lookup x = some c →
  acc.lookup x = some c∨((x,NameKind.cell)∈names∧h.objs.size≤c∧(pushCells h names).IsCell c none):=by
 induction names with
 | nil=>exact fun h=>.inl h
 | cons y r ih =>
  obtain ⟨n,k⟩:=y
  intro h acc x c e
  rw [cellsFrom_cons] at e
  unfold pushCells
  by_cases hk:(k == NameKind.cell) = true
  ·rw [if_pos hk] at e ⊢
   obtain rfl:k = .cell:=eq_of_beq hk
   have hz:(h.push { cls:=.type "cell",data:=.cell none }).objs.size = h.objs.size + 1:=Heap.size_push ..
   rw [← hz] at e
   rcases ih e with e1 | ⟨h1,h2,h3⟩
   ·rcases lookup_cases e1 with ⟨rfl,rfl⟩ | ⟨_,e1⟩
    ·exact .inr ⟨.head _,Nat.le_refl _,_,pushCells_keeps r _ _ _ (Heap.get?_push_size _ rfl),rfl⟩
    ·exact .inl e1
   ·exact .inr ⟨.tail _ h1,Nat.le_of_succ_le (Nat.le_trans (Nat.le_of_eq hz.symm) h2),h3⟩
  ·rw [if_neg hk] at e ⊢
   exact (ih e).imp_right fun h=>⟨.tail _ h.1,h.2⟩
theorem cellsFrom_acc {names:List (Str×NameKind)}:∀ {m:Nat} {acc:List (Str×Addr)} {x:Str},(acc.lookup x).isSome→((cellsFrom m names acc).lookup x).isSome:=by
 induction names with
 | nil=>exact fun h=>h
 | cons y r ih =>
  intro m acc x h
  rw [cellsFrom_cons]
  by_cases hk:(y.2 == NameKind.cell) = true
  ·rw [if_pos hk]; exact ih (lookup_isSome h)
  ·rw [if_neg hk]; exact ih h
theorem cellsFrom_some {names:List (Str×NameKind)}:∀ {m:Nat} {acc:List (Str×Addr)} {x:Str},(x,NameKind.cell)∈names→((cellsFrom m names acc).lookup x).isSome:=by
 induction names with
 | nil=>exact fun h=>nomatch h
 | cons y r ih =>
  intro m acc x h
  rw [cellsFrom_cons]
  rcases List.mem_cons.mp h with h | h
  ·subst h
   rw [if_pos (beq_self_eq_true _)]
   exact cellsFrom_acc (by rw [lookup_cons_self]; rfl)
  ·by_cases hk:(y.2 == NameKind.cell) = true
   ·rw [if_pos hk]; exact ih h
   ·rw [if_neg hk]; exact ih h
theorem cellsFrom_inj {names:List (Str×NameKind)}:∀ {m:Nat} {acc:List (Str×Addr)},(∀ x c,acc.lookup x = some c→c < m)→(∀ x y c,acc.lookup x = some c→acc.lookup y = some c→x = y) →
  ∀ x y c,(cellsFrom m names acc).lookup x = some c→(cellsFrom m names acc).lookup y = some c→x = y:=by
 induction names with
 | nil=>exact fun o9 hi=>hi
 | cons y r ih =>
  intro m acc hlt hi
  rw [cellsFrom_cons]
  by_cases hk:(y.2 == NameKind.cell) = true
  ·rw [if_pos hk]
   refine ih (fun x c h=>?_) (fun x y c h h'=>?_)
   ·rcases lookup_cases h with ⟨_,rfl⟩ | ⟨_,h⟩
    ·exact Nat.lt_succ_self _
    ·exact Nat.lt_succ_of_lt (hlt x c h)
   ·rcases lookup_cases h with ⟨rfl,e⟩ | ⟨_,h⟩ <;> rcases lookup_cases h' with ⟨rfl,e'⟩ | ⟨_,h'⟩
    ·rfl
    ·exact absurd (hlt _ _ h') (e ▸ Nat.lt_irrefl _)
    ·exact absurd (hlt _ _ h) (e' ▸ Nat.lt_irrefl _)
    ·exact hi _ _ c h h'
  ·rw [if_neg hk]; exact ih hlt hi
noncomputable def relabelS (scope sc:Scope):Scope:={ scope with names:=scope.names.map fun (n,k)=>if (k == .free && sc.kind == .function && sc.names.lookup n == some .cell) then (n,.cell) else (n,k) }
theorem relabel_eq {scope sc:Scope} {env:Env} (h:env.scope = sc):relabel scope env = relabelS scope sc:=by
 unfold relabel relabelS Env.kindOf; rw [h]
noncomputable def capt (scope sc:Scope) (x:Str):Bool:=scope.names.lookup x == some .free && (sc.names.lookup x == some .cell || (sc.names.lookup x == some .free && !(x == ("__classdict__":Str))))
noncomputable def RhoIn (scope sc:Scope) (ρ:Rho):Rho→Prop
 | []=>True
 | (x,sl) :: r=>ρ.lookup x = some sl∧capt scope sc x = true∧RhoIn scope sc ρ r
theorem RhoIn.get {scope sc:Scope} {ρ ρc:Rho} (hr:RhoIn scope sc ρ ρc) {x:Str} {sl:Slot} (h:ρc.lookup x = some sl):ρ.lookup x = some sl∧capt scope sc x = true:=by
 induction ρc with
 | nil=>exact dNS h
 | cons y r ih =>
  rcases lookup_cases h with ⟨rfl,rfl⟩ | ⟨_,h⟩
  ·exact ⟨hr.1,hr.2.1⟩
  ·exact ih hr.2.2 h
structure ScopeOk (scope sc:Scope):Prop where
 kind:scope.kind = .function
 once:∀ y∈scope.names,scope.names.lookup y.1 = some y.2
 free:∀ y∈scope.names,y.2 = .free→sc.names.lookup y.1 = some .cell∨sc.names.lookup y.1 = some .free
noncomputable def scopeOk (scope sc:Scope):Bool:=(scope.kind == .function) && (scope.names.all fun y=>scope.names.lookup y.1 == some y.2) && (scope.names.all fun y=>y.2 != .free || (sc.names.lookup y.1 == some .cell || sc.names.lookup y.1 == some .free))
theorem ScopeOk.of {scope sc:Scope} (h:scopeOk scope sc = true):ScopeOk scope sc:=by
 unfold scopeOk at h
 simp only [Bool.and_eq_true,List.all_eq_true,beq_iff_eq,Bool.or_eq_true,bne_iff_ne,ne_eq] at h
 obtain ⟨⟨h1,h2⟩,h3⟩:=h
 exact ⟨h1,h2,fun y hy hk=>(h3 y hy).resolve_left fun q=>q hk⟩
section
variable {n:Nat} {K:Kx} {R:Rsc} {G:Ent} {sc:Scope} {env:Env} {ρ:Rho} {S:R.σ} {Φ:Fz} {s:Shared}
theorem Inv.ext {h':Heap} {tk:Nat} {p:Addr} (I:Inv K R G sc env ρ S Φ s) (hk:∀ b o,b≠p→s.heap.get? b = some o→h'.get? b = some o) (hΦ:Φ p = none) (hfp:¬ R.fp S p) (hG:G.s.heap.get? p = none) (hpf:∀ o,s.heap.get? p = some o→¬ FrO o)
  (hL:p≠env.locals) (hC:∀ x c,env.cells.lookup x = some c→c≠p) (hO:∀ x es b,ρ.lookup x = some (.own es)→VarIs K env s.heap x (.ref b)→b≠p) :
  Inv K R G sc env ρ S Φ { s with heap:=h',toks:=tk }:=by
 have fz:∀ a o,Φ a = some o→h'.get? a = some o:=fun a o e=>hk a o (fun q=>by rw [q,hΦ] at e; (first | exact dNS e | exact dSN e | (obtain rfl:=Option.some.inj e) | cases e)) (I.froz a o e)
 have fr:∀ a o,s.heap.get? a = some o→FrO o→h'.get? a = some o:=fun a o e f=>hk a o (fun q=>by subst q; exact hpf o e f) e
 have hv:∀ x v,VarIs K env s.heap x v→VarIs K env h' x v:=fun x v h=>by
  rcases h with ⟨k,m,hn,hm⟩ | ⟨k,c,h1,h2⟩ | h
  ·exact .inl ⟨k,m,hn.at' fun o e=>hk _ o (Ne.symm hL) e,hm⟩
  ·obtain ⟨o,ho,hd⟩:=h2
   exact .inr (.inl ⟨k,c,h1,o,hk _ o (hC _ _ h1) ho,hd⟩)
  ·exact .inr (.inr h)
 refine ⟨I.base,fz,I.scp,I.kind,I.globs,I.blts,let ⟨m,hn⟩:=I.ns; ⟨m,hn.at' fun o e=>hk _ o (Ne.symm hL) e⟩,I.nsΦ,I.nsW,I.nsG,fun x c h=>?_,I.celG,I.celA,I.celD,fun x d h=>?_,?_,R.stable I.rsc (fun a o e hf=>hk a o (fun q=>hfp (q ▸ hf)) e) (Le.refl _) fun a hf=>(R.there I.rsc hf).no',
  ⟨I.step0.gens,I.step0.os,fun a o e=>?_,I.step0.le,I.step0.new,fz,fun a o e f=>let ⟨o₁,e₁,f₁⟩:=I.step0.fr a o e f; ⟨o₁,fr a o₁ e₁ f₁,f₁⟩⟩,I.fpG,fun e he=>let ⟨h1,L,o,h2,h3,h3',h4,h5⟩:=I.frs e he; ⟨h1,L,o,h2,h3,h3',fr L o h4 h5,h5⟩⟩
 ·obtain ⟨⟨v,o,ho,hd⟩,h2⟩:=I.cel x c h
  exact ⟨⟨v,o,hk _ o (hC _ _ h) ho,hd⟩,h2⟩
 ·obtain ⟨v,h1,h2⟩:=I.vals x d h
  exact ⟨v,hv x v h1,h2⟩
 ·obtain ⟨ad,h1,h2⟩:=I.owns
  refine ⟨ad,fun x ds h=>?_,h2⟩
  obtain ⟨a1,⟨f,o,vs,k,ho,r1,r2,r3⟩,a3,a4⟩:=h1 x ds h
  exact ⟨hv _ _ a1,⟨f,o,vs,k,hk _ o (hO x ds _ h a1) ho,r1,r2,r3⟩,a3,a4⟩
 ·obtain ⟨o',e',q⟩:=I.step0.keep a o e
  exact ⟨o',hk a o' (fun z=>by rw [z,hG] at e; (first | exact dNS e | exact dSN e | (obtain rfl:=Option.some.inj e) | cases e)) e',q⟩
theorem Inv.cells_ne {p:Addr} {o:Obj} (I:Inv K R G sc env ρ S Φ s) (ho:s.heap.get? p = some o) (hd:∀ v,o.data≠.cell v):∀ x c,env.cells.lookup x = some c→c≠p:=fun x c h q=>by
 obtain ⟨⟨v,oc,hoc,hdc⟩,_⟩:=I.cel x c h
 subst q; rw [ho] at hoc; (first | (obtain rfl:=Option.some.inj hoc) | cases hoc); exact hd _ hdc
theorem Inv.locals_ne {p:Addr} {o:Obj} (I:Inv K R G sc env ρ S Φ s) (ho:s.heap.get? p = some o) (hd:∀ es ep,o.data≠.dict es ep):p≠env.locals:=fun q=>by
 obtain ⟨ol,es,ep,h1,h2⟩:=I.locals_dict
 subst q; rw [ho] at h1; (first | (obtain rfl:=Option.some.inj h1) | cases h1); exact hd _ _ h2
theorem Inv.own_ne {p:Addr} {o:Obj} (I:Inv K R G sc env ρ S Φ s) (ho:s.heap.get? p = some o) (hd:∀ vs m,o.data≠.seq vs m):∀ x es b,ρ.lookup x = some (.own es)→VarIs K env s.heap x (.ref b)→b≠p:=fun x es b h hv q=>by
 obtain ⟨ad,h1,_⟩:=I.owns
 obtain ⟨a1,⟨_,ob,vs,m,hob,_,hdb,_⟩,_⟩:=h1 x es h
 have:=VarIs.inj hv a1; cases this
 subst q; rw [ho] at hob; (first | (obtain rfl:=Option.some.inj hob) | cases hob); exact hd _ _ hdb
theorem Inv.gone (I:Inv K R G sc env ρ S Φ s) {a:Addr} (h:s.heap.get? a = none):G.s.heap.get? a = none:=by
 cases q:G.s.heap.get? a with
 | none=>rfl
 | some o=>obtain ⟨o',e,_⟩:=I.step0.keep a o q; rw [h] at e; (first | exact dNS e | exact dSN e | (obtain rfl:=Option.some.inj e) | cases e)
noncomputable def mineOf (scope:Scope):Str→Bool:=fun x=>isVar scope x
theorem lookup_relabelS {scope:Scope} {sc:Scope}:∀ (names:List (Str×NameKind)) (x:Str),(names.map fun (n,k)=>if (k == .free && sc.kind == .function && sc.names.lookup n == some NameKind.cell) then (n,NameKind.cell) else (n,k)).lookup x =
  (names.lookup x).map fun k=>if (k == .free && sc.kind == .function && sc.names.lookup x == some NameKind.cell) then .cell else k
 | [],_=>rfl
 | (n,k) :: r,x=>by
  have ih:=lookup_relabelS (scope:=scope) (sc:=sc) r x
  rw [List.map_cons]
  dsimp only
  by_cases q:x = n
  ·subst q
   by_cases hc:(k == .free && sc.kind == .function && sc.names.lookup x == some NameKind.cell) = true
   ·rw [if_pos hc,List.lookup_cons,List.lookup_cons,beq_self_eq_true]
    show some NameKind.cell = some (if _ then _ else _)
    rw [if_pos hc]
   ·rw [if_neg hc,List.lookup_cons,List.lookup_cons,beq_self_eq_true]
    show some k = some (if _ then _ else _)
    rw [if_neg hc]
  ·have q':(x == n) = false:=by simp [q]
   by_cases hc:(k == .free && sc.kind == .function && sc.names.lookup n == some NameKind.cell) = true
   ·rw [if_pos hc,List.lookup_cons,List.lookup_cons,q']; exact ih
   ·rw [if_neg hc,List.lookup_cons,List.lookup_cons,q']; exact ih
theorem comp_env {A:Around} {scope:Scope} {ρc:Rho} {Q:Env→Shared→Prop} {E:Value→Shared→Prop} (I:Inv K R G sc env ρ S Φ s) (ho:ScopeOk scope sc) (hρ:RhoIn scope sc ρ ρc)
  (h:∀ cenv s',Inv K R { G with mine:=mineOf scope } (relabelS scope sc) { cenv with scope:=relabel scope env } ρc S Φ s'→Step NoW Φ s Φ s'→s.heap.get? cenv.locals = none →
   (∀ x c,mineOf scope x = true→cenv.cells.lookup x = some c→s.heap.get? c = none) →
   (∀ x es b,ρc.lookup x = some (.own es)→VarIs K { cenv with scope:=relabel scope env } s'.heap x (.ref b)→ρ.lookup x = some (.own es)∧VarIs K env s.heap x (.ref b))→Q cenv s') :
  wpAny K.M A (newFunctionEnv scope env.globals (clOf env scope.names []) [] env.qual none .none (some env)) Q E s:=by
 simp only [newFunctionEnv,Option.isSome_some,if_true]
 refine wpAny_bind (wpAny_alloc ?_)
 refine wpAny_bind (wpAny_layCells _ (fun name kind cells=>by cases hkc:kind == NameKind.cell <;> simp [hkc]) _ _ _ _ ?_)
 have hz:(s.heap.push { cls:=.type "dict",data:=.dict #[] }).objs.size = s.heap.objs.size + 1:=Heap.size_push ..
 generalize hh₁:s.heap.push { cls:=.type "dict",data:=.dict #[] } = h₁ at hz ⊢
 dsimp only
 refine wpAny_bind (wpAny_pure (wpAny_pure (h _ _ ?_ ?_ (heap_size_none _) ?_ ?_)))
 all_goals
  have keep:∀ b o,s.heap.get? b = some o→(pushCells h₁ scope.names).get? b = some o:=fun b o e=>pushCells_keeps _ _ b o (hh₁ ▸ Heap.get?_push_of_some _ e)
  have st:Step NoW Φ s Φ { s with heap:=pushCells h₁ scope.names }:=Step.of_keeps (tk:=s.toks) (dr:=s.drawn) I.froz keep
  have old:∀ x c,(clOf env scope.names []).lookup x = some c→scope.names.lookup x = some .free∧env.cells.lookup x = some c:=fun x c e=>by
   rcases clOf_mem e with e | ⟨h1,h2⟩
   ·cases e
   ·have hm:=ho.once _ h1
    obtain ⟨c',hc'⟩:=I.celA x ((ho.free _ h1 rfl).imp id id)
    rw [hc'] at h2; simp at h2; subst h2
    exact ⟨hm,hc'⟩
  have mem:∀ x c,(cellsFrom h₁.objs.size scope.names (clOf env scope.names [])).lookup x = some c →
    (scope.names.lookup x = some .free∧env.cells.lookup x = some c)∨(scope.names.lookup x = some .cell∧h₁.objs.size≤c∧(pushCells h₁ scope.names).IsCell c none):=fun x c e=>by
   rcases cellsFrom_mem e with e | ⟨h1,h2,h3⟩
   ·exact .inl (old x c e)
   ·exact .inr ⟨ho.once _ h1,h2,h3⟩
  have fresh:∀ c,h₁.objs.size≤c→s.heap.get? c = none:=fun c hc=>by
   cases e:s.heap.get? c with
   | none=>rfl
   | some o=>have:=Heap.lt_size e; rw [hz] at hc; exact absurd this (Nat.not_lt.mpr (Nat.le_of_succ_le hc))
  have hv:∀ x v,capt scope sc x = true→VarIs K env s.heap x v→VarIs K { scope:=relabel scope env,locals:=s.heap.objs.size,globals:=env.globals,cells:=cellsFrom h₁.objs.size scope.names (clOf env scope.names []),qual:=env.qual,func:=none,code:=env.code,frame:=env.frame,builtins:=env.builtins } (pushCells h₁ scope.names) x v:=fun x v hc hv=>by
   unfold capt at hc
   simp only [Bool.and_eq_true,beq_iff_eq,Bool.or_eq_true,Bool.not_eq_true'] at hc
   obtain ⟨hc1,hc2⟩:=hc
   have hki:env.kindOf x = sc.names.lookup x:=by unfold Env.kindOf; rw [I.scp]
   have hcell:∃ c,env.cells.lookup x = some c∧s.heap.IsCell c (some v):=by
    rcases hv with ⟨k,_⟩ | ⟨k,c,h1,h2⟩ | ⟨k,_⟩
    ·rw [hki] at k; rcases hc2 with q | ⟨q,_⟩ <;> rw [q] at k <;> cases k
    ·exact ⟨c,h1,h2⟩
    ·rw [hki] at k; rcases hc2 with q | ⟨q,_⟩ <;> rw [q] at k <;> cases k
   obtain ⟨c,h1,h2⟩:=hcell
   have hs:((cellsFrom h₁.objs.size scope.names (clOf env scope.names [])).lookup x).isSome:=cellsFrom_acc (clOf_some (mem_of_lookup hc1))
   obtain ⟨c',hc'⟩:=Option.isSome_iff_exists.mp hs
   have hcc:c' = c:=by
    rcases mem x c' hc' with ⟨_,q⟩ | ⟨q,_⟩
    ·rw [h1] at q; (first | (obtain rfl:=Option.some.inj q) | cases q); rfl
    ·rw [hc1] at q; (first | exact dNS q | exact dSN q | (obtain rfl:=Option.some.inj q) | cases q)
   subst hcc
   refine .inr (.inl ⟨?_,c',hc',h2.keeps keep⟩)
   have hkind:(Env.kindOf { scope:=relabel scope env,locals:=s.heap.objs.size,globals:=env.globals,cells:=cellsFrom h₁.objs.size scope.names (clOf env scope.names []),qual:=env.qual,func:=none,code:=env.code,frame:=env.frame,builtins:=env.builtins } x) =
     (scope.names.lookup x).map fun k=>if (k == .free && sc.kind == .function && sc.names.lookup x == some NameKind.cell) then .cell else k:=by
    unfold Env.kindOf; rw [relabel_eq I.scp]; exact lookup_relabelS (scope:=scope) scope.names x
   rw [hkind,hc1]
   rcases hc2 with q | ⟨q,q2⟩
   ·left; rw [q,I.kind]; rfl
   ·right; rw [q]; exact ⟨by simp,by simpa using q2⟩
 ·have hnsC:(pushCells h₁ scope.names).Ns s.heap.objs.size (fun o9=>none):=by
   have:=Heap.Ns.new s.heap (.type "dict")
   rw [hh₁] at this
   exact this.keeps (pushCells_keeps _ _)
  refine ⟨I.base,st.froz,relabel_eq I.scp,ho.kind,I.globs,I.blts,⟨_,hnsC⟩,none_of_fresh I.froz (heap_size_none _),fp_fresh I (heap_size_none _),I.gone (heap_size_none _),fun x c hc=>?_,fun x c hm hc=>?_,fun x hx=>?_,fun x y c hx hy=>?_,fun x d hx=>?_,?_,(I.pure st).rsc,(I.pure st).step0,I.fpG,(I.pure st).frs⟩
  ·rcases mem x c hc with ⟨_,q⟩ | ⟨_,q1,q2⟩
   ·obtain ⟨⟨v,hv'⟩,h2,h3⟩:=I.cel x c q
    exact ⟨⟨v,hv'.keeps keep⟩,h2,h3⟩
   ·have:=fresh c q1
    exact ⟨⟨_,q2⟩,none_of_fresh I.froz this,fp_fresh I this⟩
  ·rcases mem x c hc with ⟨q,_⟩ | ⟨_,q1,q2⟩
   ·have:=isVar_or hm; rw [q] at this; rcases this with z | z <;> cases z
   ·exact I.gone (fresh c q1)
  ·have hkind:((relabelS scope sc).names.lookup x) = (scope.names.lookup x).map fun k=>if (k == .free && sc.kind == .function && sc.names.lookup x == some NameKind.cell) then .cell else k:=lookup_relabelS (scope:=scope) scope.names x
   rw [hkind] at hx
   have:scope.names.lookup x = some .free∨scope.names.lookup x = some .cell:=by
    cases q:scope.names.lookup x with
    | none=>rw [q] at hx; simp at hx
    | some k=>rw [q] at hx; cases k <;> simp_all
   have hs:((cellsFrom h₁.objs.size scope.names (clOf env scope.names [])).lookup x).isSome:=by
    rcases this with q | q
    ·exact cellsFrom_acc (clOf_some (mem_of_lookup q))
    ·exact cellsFrom_some (mem_of_lookup q)
   exact Option.isSome_iff_exists.mp hs
  ·refine cellsFrom_inj (fun x c e=>?_) (fun x y c e e'=>I.celD x y c (old x c e).2 (old y c e').2) x y c hx hy
   obtain ⟨⟨v,hv'⟩,_⟩:=I.cel x c (old x c e).2
   exact Nat.lt_trans (hv'.lt) (by rw [hz]; exact Nat.lt_succ_self _)
  ·obtain ⟨q1,q2⟩:=hρ.get hx
   obtain ⟨v,h1,h2⟩:=I.vals x d q1
   exact ⟨v,hv x v q2 h1,h2⟩
  ·obtain ⟨ad,h1,h2⟩:=I.owns
   refine ⟨ad,fun x ds hx=>?_,fun x y ds es hx hy=>h2 x y ds es (hρ.get hx).1 (hρ.get hy).1⟩
   obtain ⟨q1,q2⟩:=hρ.get hx
   obtain ⟨a1,a2,a3,a4⟩:=h1 x ds q1
   exact ⟨hv _ _ q2 a1,a2.of_step st (fun z=>z.elim),a3,a4⟩
 ·exact st
 ·intro x c hm hc
  rcases mem x c hc with ⟨q,_⟩ | ⟨_,q1,q2⟩
  ·have:=isVar_or hm; rw [q] at this; rcases this with z | z <;> cases z
  ·exact fresh c q1
 ·intro x es b hx hvb
  obtain ⟨ad,h1,h2⟩:=I.owns
  obtain ⟨q1,q2⟩:=hρ.get hx
  obtain ⟨a1,⟨_,o,_,_,ho',_⟩,_⟩:=h1 x es q1
  have:=VarIs.inj hvb (hv _ _ q2 a1)
  (first | (obtain rfl:=Value.ref.inj this) | cases this)
  exact ⟨q1,a1⟩
end
structure CI (K:Kx) (R:Rsc) (G:Ent) (sc:Scope) (env:Env) (ρ:Rho) (S:R.σ) (Φ₀:Fz) (s₀:Shared) (a:Addr) (ys:List PyData) (Φ:Fz) (s:Shared):Prop where
 inv:Inv K R G sc env ρ S Φ s
 step:Step (R.fp S) Φ₀ s₀ Φ s
 acc:Owns Φ s.heap a ys
 accN:s₀.heap.get? a = none
 accG:G.s.heap.get? a = none
 accF:¬ R.fp S a
 locN:s₀.heap.get? env.locals = none
 celN:∀ x c,G.mine x = true→env.cells.lookup x = some c→s₀.heap.get? c = none
 old:∀ x es b,ρ.lookup x = some (.own es)→VarIs K env s.heap x (.ref b)→∃ o,s₀.heap.get? b = some o
section
variable {n:Nat} {K:Kx} {R:Rsc} {G:Ent} {sc:Scope} {env:Env} {ρ ρ':Rho} {S:R.σ} {Φ₀ Φ Φ':Fz} {s₀ s s':Shared} {a:Addr} {ys:List PyData}
noncomputable def Tmp (R:Rsc) (S:R.σ) (G:Ent) (env:Env) (a:Addr):Addr→Prop:=fun b=>R.fp S b∨b = a∨b = env.locals∨∃ x,G.mine x = true∧env.cells.lookup x = some b
theorem CI.tmp (C:CI K R G sc env ρ S Φ₀ s₀ a ys Φ s):∀ b,Tmp R S G env a b→R.fp S b∨s₀.heap.get? b = none:=fun b h=>by
 rcases h with h | rfl | rfl | ⟨x,h1,h2⟩
 ·exact .inl h
 ·exact .inr C.accN
 ·exact .inr C.locN
 ·exact .inr (C.celN x b h1 h2)
theorem CI.sub {ρ₁:Rho} (C:CI K R G sc env ρ S Φ₀ s₀ a ys Φ s) (h:Sub ρ₁ ρ):CI K R G sc env ρ₁ S Φ₀ s₀ a ys Φ s :=
 ⟨C.inv.sub h,C.step,C.acc,C.accN,C.accG,C.accF,C.locN,C.celN,fun x es b e=>C.old x es b (h _ _ e)⟩
theorem CI.after (C:CI K R G sc env ρ S Φ₀ s₀ a ys Φ s) (x:After K R G sc env ρ S Φ s S Φ' s'):CI K R G sc env ρ S Φ₀ s₀ a ys Φ' s' where
 inv:=x.inv
 step:=C.step.trans x.step fun b hb=>.inl hb
 acc:=C.acc.of_step x.step C.accF
 accN:=C.accN
 accG:=C.accG
 accF:=C.accF
 locN:=C.locN
 celN:=C.celN
 old:=fun y es b hy hv=>by
  obtain ⟨ad,h1,_⟩:=C.inv.owns
  obtain ⟨a1,_⟩:=h1 y es hy
  have:=VarIs.inj hv (a1.of_step x.step C.inv.nsW fun z c hc=>(C.inv.cel z c hc).nfp)
  (first | (obtain rfl:=Value.ref.inj this) | cases this)
  exact C.old y es _ hy a1
theorem CI.bound {xs:List Str} (C:CI K R G sc env ρ S Φ₀ s₀ a ys Φ s) (hm:∀ x∈xs,G.mine x = true) (I:Inv K R G sc env ρ' S Φ s') (st:Step (Places env xs) Φ s Φ s') (ot:∀ y u,y∉xs→VarIs K env s.heap y u→VarIs K env s'.heap y u)
  (hρ:∀ x es,ρ'.lookup x = some (.own es)→x∉xs∧ρ.lookup x = some (.own es)):CI K R G sc env ρ' S Φ₀ s₀ a ys Φ s' where
 inv:=I
 step:=C.step.trans st fun b hb=>by
  rcases hb with rfl | ⟨x,hx,hc⟩
  ·exact .inr C.locN
  ·exact .inr (C.celN x b (hm x hx) hc)
 acc:=by
  refine C.acc.of_step st fun hb=>?_
  obtain ⟨_,o,vs,m,ho,_,hd,_⟩:=C.acc
  rcases hb with h | ⟨x,hx,hc⟩
  ·exact C.inv.locals_ne ho (by first | exact nDF hd | exact nSF hd | exact nSD hd | exact nDS hd | (rw [hd]; intro o9 o9 q; cases q)) h
  ·exact C.inv.cells_ne ho (by first | exact nCF hd | exact nCD hd | exact nCS hd | (rw [hd]; intro o9 q; cases q)) x _ hc rfl
 accN:=C.accN
 accG:=C.accG
 accF:=C.accF
 locN:=C.locN
 celN:=C.celN
 old:=fun y es b hy hv=>by
  obtain ⟨q1,q2⟩:=hρ y es hy
  obtain ⟨ad,h1,_⟩:=C.inv.owns
  obtain ⟨a1,⟨_,o,_,_,ho,_,hd,_⟩,_⟩:=h1 y es q2
  have e1:=VarIs.inj hv (ot y _ q1 a1)
  cases e1
  exact C.old y es _ q2 a1
theorem CI.moved {h':Heap} {tk:Nat} {p:Addr} {o:Obj} {vs:Array Value} (C:CI K R G sc env ρ S Φ₀ s₀ a ys Φ s) (hk:∀ b o,b≠p→s.heap.get? b = some o→h'.get? b = some o)
  (hp:s.heap.get? p = some o) (hd:o.data = .fields vs) (hΦ:Φ p = none) (hfp:¬ R.fp S p) (hG:G.s.heap.get? p = none) (hN:s₀.heap.get? p = none) :
  CI K R G sc env ρ S Φ₀ s₀ a ys Φ { s with heap:=h',toks:=tk } where
 inv:=C.inv.ext hk hΦ hfp hG (fun o' e f=>by rw [hp] at e; (first | (obtain rfl:=Option.some.inj e) | cases e); obtain ⟨_,_,_,q⟩:=f; rw [hd] at q; (first | exact dNS q | exact dSN q | (obtain rfl:=Option.some.inj q) | cases q)) (C.inv.locals_ne hp (by first | exact nDF hd | exact nSF hd | exact nSD hd | exact nDS hd | (rw [hd]; intro o9 o9 q; cases q))) (C.inv.cells_ne hp (by first | exact nCF hd | exact nCD hd | exact nCS hd | (rw [hd]; intro o9 q; cases q))) (C.inv.own_ne hp (by first | exact nDF hd | exact nSF hd | exact nSD hd | exact nDS hd | (rw [hd]; intro o9 o9 q; cases q)))
 step:=by
  have I':=C.inv.ext (tk:=tk) hk hΦ hfp hG (fun o' e f=>by rw [hp] at e; (first | (obtain rfl:=Option.some.inj e) | cases e); obtain ⟨_,_,_,q⟩:=f; rw [hd] at q; (first | exact dNS q | exact dSN q | (obtain rfl:=Option.some.inj q) | cases q)) (C.inv.locals_ne hp (by first | exact nDF hd | exact nSF hd | exact nSD hd | exact nDS hd | (rw [hd]; intro o9 o9 q; cases q))) (C.inv.cells_ne hp (by first | exact nCF hd | exact nCD hd | exact nCS hd | (rw [hd]; intro o9 q; cases q))) (C.inv.own_ne hp (by first | exact nDF hd | exact nSF hd | exact nSD hd | exact nDS hd | (rw [hd]; intro o9 o9 q; cases q)))
  refine ⟨C.step.gens,C.step.os,fun b ob e=>?_,C.step.le,C.step.new,I'.froz,fun b ob e f=>let ⟨o₁,e₁,f₁⟩:=C.step.fr b ob e f; ⟨o₁,hk b o₁ (fun z=>by subst z; rw [hp] at e₁; (first | (obtain rfl:=Option.some.inj e₁) | cases e₁); obtain ⟨_,_,_,q⟩:=f₁; rw [hd] at q; (first | exact dNS q | exact dSN q | (obtain rfl:=Option.some.inj q) | cases q)) e₁,f₁⟩⟩
  obtain ⟨o',e',q⟩:=C.step.keep b ob e
  exact ⟨o',hk b o' (fun z=>by rw [z,hN] at e; (first | exact dNS e | exact dSN e | (obtain rfl:=Option.some.inj e) | cases e)) e',q⟩
 acc:=by
  obtain ⟨f,oa,vs',m,ho,r1,r2,r3⟩:=C.acc
  exact ⟨f,oa,vs',m,hk a oa (fun z=>by subst z; rw [hp] at ho; (first | (obtain rfl:=Option.some.inj ho) | cases ho); rw [hd] at r2; (first | exact dNS r2 | exact dSN r2 | (obtain rfl:=Option.some.inj r2) | cases r2)) ho,r1,r2,r3⟩
 accN:=C.accN
 accG:=C.accG
 accF:=C.accF
 locN:=C.locN
 celN:=C.celN
 old:=fun y es b hy hv=>by
  obtain ⟨ad,h1,_⟩:=C.inv.owns
  obtain ⟨a1,_⟩:=h1 y es hy
  have a1':VarIs K env h' y (.ref (ad y)):=by
   rcases a1 with ⟨k,m,hn,hm⟩ | ⟨k,c,h1c,oc,hoc,hdc⟩ | h
   ·exact .inl ⟨k,m,hn.at' fun o e=>hk _ o (Ne.symm (C.inv.locals_ne hp (by first | exact nDF hd | exact nSF hd | exact nSD hd | exact nDS hd | (rw [hd]; intro o9 o9 q; cases q)))) e,hm⟩
   ·exact .inr (.inl ⟨k,c,h1c,oc,hk _ oc (C.inv.cells_ne hp (by first | exact nCF hd | exact nCD hd | exact nCS hd | (rw [hd]; intro o9 q; cases q)) _ _ h1c) hoc,hdc⟩)
   ·exact .inr (.inr h)
  have:=VarIs.inj hv a1'
  (first | (obtain rfl:=Value.ref.inj this) | cases this)
  exact C.old y es _ hy a1
theorem plain_of {h:Heap} {a:Addr} {o:Obj} {vs:Array Value} {m:Nat} (ho:h.get? a = some o) (hp:PL o) (hd:o.data = .seq vs m):h.PlainList a vs:=by
 obtain ⟨c,d,da,sl⟩:=o
 obtain ⟨h1,h2,h3⟩:=hp
 dsimp only at h1 h2 h3 hd
 subst h1 h2 h3 hd
 exact ⟨m,ho⟩
theorem of_plain {h:Heap} {a:Addr} {vs:Array Value} (x:h.PlainList a vs):∃ o m,h.get? a = some o∧PL o∧o.data = .seq vs m:=by
 obtain ⟨m,ho⟩:=x
 exact ⟨_,m,ho,⟨rfl,rfl,rfl⟩,rfl⟩
theorem CI.append {A:Around} {E:Value→Shared→Prop} {v:Value} {d:PyData} {Q:Value→Shared→Prop} (C:CI K R G sc env ρ S Φ₀ s₀ a ys Φ s) (hr:RepP Φ d v) (hsz:ys.length≤sizeLine)
  (h:∀ s',CI K R G sc env ρ S Φ₀ s₀ a (ys ++ [d]) Φ s'→Step (Tmp R S G env a) Φ s Φ s'→Q .none s'):wpAny K.M A (call (.builtin "list.append") [.ref a,v]) Q E s:=by
 obtain ⟨f,oa,vs,m,ho,r1,r2,r3⟩:=id C.acc
 have hz:=size_eq r3
 refine wpAny_list_append_plain (hsz:=by first | exact Nat.succ_pos _ | omega) (plain_of ho r1 r2) fun h' hl hs=>?_
 have hk:∀ b o,b≠a→s.heap.get? b = some o→h'.get? b = some o:=fun b o hb e=>by rw [hs.2 b hb]; exact e
 have hL:=C.inv.locals_ne ho (by first | exact nDF r2 | exact nSF r2 | exact nSD r2 | exact nDS r2 | (rw [r2]; intro o9 o9 q; cases q))
 have hC:=C.inv.cells_ne ho (by first | exact nCF r2 | exact nCD r2 | exact nCS r2 | (rw [r2]; intro o9 q; cases q))
 have hO:∀ x es b,ρ.lookup x = some (.own es)→VarIs K env s.heap x (.ref b)→b≠a:=fun x es b hx hv q=>by
  obtain ⟨o,e⟩:=C.old x es b hx hv
  rw [q,C.accN] at e; (first | exact dNS e | exact dSN e | (obtain rfl:=Option.some.inj e) | cases e)
 have nf:∀ o',s.heap.get? a = some o'→¬ FrO o':=fun o' e q=>by rw [ho] at e; (first | (obtain rfl:=Option.some.inj e) | cases e); obtain ⟨_,_,_,z⟩:=q; rw [r2] at z; (first | exact dNS z | exact dSN z | (obtain rfl:=Option.some.inj z) | cases z)
 have I':=C.inv.ext (tk:=s.toks) hk f C.accF C.accG nf hL hC hO
 obtain ⟨ol,ml,hol,hlc,hld⟩:=of_plain hl
 refine h _ ⟨I',⟨C.step.gens,C.step.os,fun b ob e=>?_,C.step.le,C.step.new,I'.froz,fun b ob e q=>let ⟨o₁,e₁,f₁⟩:=C.step.fr b ob e q; ⟨o₁,hk b o₁ (fun z=>by subst z; exact nf o₁ e₁ f₁) e₁,f₁⟩⟩,⟨f,ol,_,ml,hol,hlc,hld,?_⟩,C.accN,C.accG,C.accF,C.locN,C.celN,fun y es b hy hv=>?_⟩ ⟨rfl,rfl,fun b ob e=>?_,Le.refl _,fun o9 e n=>absurd e n,I'.froz,fun b ob e q=>⟨ob,hk b ob (fun z=>by subst z; exact nf ob e q) e,q⟩⟩
 ·obtain ⟨o',e',q⟩:=C.step.keep b ob e
  exact ⟨o',hk b o' (fun z=>by rw [z,C.accN] at e; (first | exact dNS e | exact dSN e | (obtain rfl:=Option.some.inj e) | cases e)) e',q⟩
 ·rw [Array.toList_push]; exact r3.append (Reps.one hr)
 ·obtain ⟨ad,h1,_⟩:=C.inv.owns
  obtain ⟨a1,_⟩:=h1 y es hy
  have a1':VarIs K env h' y (.ref (ad y)):=by
   rcases a1 with ⟨k,m,hn,hm⟩ | ⟨k,c,h1c,oc,hoc,hdc⟩ | h
   ·exact .inl ⟨k,m,hn.at' fun o e=>hk _ o (Ne.symm hL) e,hm⟩
   ·exact .inr (.inl ⟨k,c,h1c,oc,hk _ oc (hC _ _ h1c) hoc,hdc⟩)
   ·exact .inr (.inr h)
  have:=VarIs.inj hv a1'
  (first | (obtain rfl:=Value.ref.inj this) | cases this)
  exact C.old y es _ hy a1
 ·by_cases q:b = a
  ·subst q; exact ⟨ol,hol,fun nq=>absurd (.inr (.inl rfl)) nq⟩
  ·exact ⟨ob,hk b ob q e,fun o9=>.inl rfl⟩
end
section
variable {K:Kx} {R:Rsc} {G:Ent} {sc:Scope} {env:Env} {ρ:Rho} {S:R.σ} {Φ Φ':Fz} {s s':Shared}
theorem Inv.privF {W:Addr→Prop} (I:Inv K R G sc env ρ S Φ s) (st:Step W Φ s Φ' s') (hW:∀ a,W a→¬ R.fp S a∧G.s.heap.get? a = none∧∀ o,s.heap.get? a = some o→∃ vs,o.data = .fields vs):Inv K R G sc env ρ S Φ' s':=by
 obtain ⟨m,hm⟩:=I.ns
 have hm0:=hm
 obtain ⟨om,es,ep,hom,hdm,_⟩:=hm0
 have nL:¬ W env.locals:=fun q=>by obtain ⟨vs,z⟩:=(hW _ q).2.2 om hom; rw [hdm] at z; (first | exact dNS z | exact dSN z | (obtain rfl:=Option.some.inj z) | cases z)
 have nC:∀ x c,env.cells.lookup x = some c→¬ W c:=fun x c h q=>by
  obtain ⟨⟨v,oc,hoc,hd⟩,_⟩:=I.cel x c h
  obtain ⟨vs,z⟩:=(hW _ q).2.2 oc hoc; rw [hd] at z; (first | exact dNS z | exact dSN z | (obtain rfl:=Option.some.inj z) | cases z)
 refine ⟨fun a o e=>st.le _ _ (I.base a o e),st.froz,I.scp,I.kind,I.globs,I.blts,⟨m,Ns.of_step st hm nL⟩,st.noneΦ I.nsΦ hom nL,I.nsW,I.nsG,fun x c h=>?_,I.celG,I.celA,I.celD,fun x d h=>?_,?_,R.stable I.rsc (fun a o e hf=>?_) st.le fun a hf=>?_,
  I.step0.trans st fun a ha=>.inr (hW a ha).2.1,I.fpG,I.frs.step st fun a o ho hf o9 o9 hw=>by
   obtain ⟨vs,z⟩:=(hW a hw).2.2 o ho; obtain ⟨_,_,_,q⟩:=hf; rw [z] at q; (first | exact dNS q | exact dSN q | (obtain rfl:=Option.some.inj q) | cases q)⟩
 ·obtain ⟨⟨v,oc,hoc,hd⟩,h2,h3⟩:=I.cel x c h
  exact ⟨⟨v,IsCell.of_step st ⟨oc,hoc,hd⟩ (nC x c h)⟩,st.noneΦ h2 hoc (nC x c h),h3⟩
 ·obtain ⟨v,h1,h2⟩:=I.vals x d h
  exact ⟨v,h1.of_step st nL nC,h2.mono st.le⟩
 ·obtain ⟨ad,h1,h2⟩:=I.owns
  refine ⟨ad,fun x ds h=>?_,h2⟩
  obtain ⟨a1,a2,a3,a4⟩:=h1 x ds h
  refine ⟨a1.of_step st nL nC,a2.of_step st fun q=>?_,a3,a4⟩
  obtain ⟨_,o,vs,k,ho,_,hd,_⟩:=a2
  obtain ⟨vs',z⟩:=(hW _ q).2.2 o ho; rw [hd] at z; (first | exact dNS z | exact dSN z | (obtain rfl:=Option.some.inj z) | cases z)
 ·obtain ⟨o',e',q⟩:=st.keep a o e
  rcases q (fun z=>(hW a z).1 hf) with rfl | ⟨c,_⟩
  ·exact e'
  ·obtain ⟨_,o₂,e₂,nn⟩:=R.there I.rsc hf
   rw [e] at e₂; (first | (obtain rfl:=Option.some.inj e₂) | cases e₂); exact absurd c nn
 ·obtain ⟨h1,o,h2,_⟩:=R.there I.rsc hf
  exact st.noneΦ h1 h2 fun z=>(hW a z).1 hf
theorem priv_places {W:Addr→Prop} (I:Inv K R G sc env ρ S Φ s) (hW:∀ a,W a→∀ o,s.heap.get? a = some o→∃ vs,o.data = .fields vs):¬ W env.locals∧(∀ x c,env.cells.lookup x = some c→¬ W c)∧(∀ a ds,Owns Φ s.heap a ds→¬ W a):=by
 refine ⟨fun q=>?_,fun x c h q=>?_,fun a ds h q=>?_⟩
 ·obtain ⟨m,om,es,ep,hom,hdm,_⟩:=I.ns
  obtain ⟨vs,z⟩:=hW _ q om hom; rw [hdm] at z; (first | exact dNS z | exact dSN z | (obtain rfl:=Option.some.inj z) | cases z)
 ·obtain ⟨⟨v,oc,hoc,hd⟩,_⟩:=I.cel x c h
  obtain ⟨vs,z⟩:=hW _ q oc hoc; rw [hd] at z; (first | exact dNS z | exact dSN z | (obtain rfl:=Option.some.inj z) | cases z)
 ·obtain ⟨_,o,vs,k,ho,_,hd,_⟩:=h
  obtain ⟨vs',z⟩:=hW _ q o ho; rw [hd] at z; (first | exact dNS z | exact dSN z | (obtain rfl:=Option.some.inj z) | cases z)
theorem CI.privF {W:Addr→Prop} {Φ₀:Fz} {s₀:Shared} {a:Addr} {ys:List PyData} (C:CI K R G sc env ρ S Φ₀ s₀ a ys Φ s) (st:Step W Φ s Φ' s')
  (hW:∀ a,W a→¬ R.fp S a∧G.s.heap.get? a = none∧s₀.heap.get? a = none∧∀ o,s.heap.get? a = some o→∃ vs,o.data = .fields vs):CI K R G sc env ρ S Φ₀ s₀ a ys Φ' s':=by
 obtain ⟨nL,nC,nO⟩:=priv_places C.inv fun a h=>(hW a h).2.2.2
 refine ⟨C.inv.privF st fun a h=>⟨(hW a h).1,(hW a h).2.1,(hW a h).2.2.2⟩,C.step.trans st fun a h=>.inr (hW a h).2.2.1,C.acc.of_step st (nO _ _ C.acc),C.accN,C.accG,C.accF,C.locN,C.celN,fun y es b hy hv=>?_⟩
 obtain ⟨ad,h1,_⟩:=C.inv.owns
 obtain ⟨a1,_⟩:=h1 y es hy
 have:=VarIs.inj hv (a1.of_step st nL nC)
 (first | (obtain rfl:=Value.ref.inj this) | cases this)
 exact C.old y es _ hy a1
end
structure GSrc (K:Kx) (target:Expr) (Φ₁:Fz) (I:Addr) (ds:List D) (pr:Addr→Prop) (fp:List Addr) (St:Nat→Heap→Prop):Prop where
 item:∀ A:Around,A.handled = none→∀ (i:Nat) (s:Shared) (Φ:Fz),i < ds.length→St i s.heap→Le Φ₁ Φ→(∀ a o,Φ a = some o→s.heap.get? a = some o)→(∀ p,pr p→Φ p = none)→∀ (Q:Value→Shared→Prop) (E:Value→Shared→Prop),
  (∀ v d Φ' s',ds[i]? = some d→Rep Φ' d v→Step pr Φ s Φ' s'→St (i + 1) s'.heap→(∀ p,pr p→Φ' p = none)→Q v s')→wpAny K.M A (pyNext (.ref I)) (fun r s₁=>∃ v,r = some v∧wpAny K.M A (letOwnedTupleGo target (.ref I) v) (fun o9 s'=>Q v s') E s₁) E s
 done:∀ A:Around,A.handled = none→∀ (s:Shared),St ds.length s.heap→∀ (Q:Option Value→Shared→Prop) (E:Value→Shared→Prop),(∀ h' tk p,pr p→(∀ b o,b≠p→s.heap.get? b = some o→h'.get? b = some o)→Q none { s with heap:=h',toks:=tk })→wpAny K.M A (pyNext (.ref I)) Q E s
 self:∀ A:Around,A.handled = none→∀ (s:Shared) (Q:Value→Shared→Prop) (E:Value→Shared→Prop),St 0 s.heap→Q (.ref I) s→wpAny K.M A (pyIter (.ref I)) Q E s
 frame:∀ i h h',St i h→(∀ b∈fp,∀ o,h.get? b = some o→h'.get? b = some o)→St i h'
 kind:∀ i h p,St i h→pr p→∃ o vs,h.get? p = some o∧o.data = .fields vs
 nofr:∀ i h,St i h→∀ b∈fp,∃ o,h.get? b = some o∧o.cls≠.type "frame"
theorem step_but {Φ:Fz} {s:Shared} {h':Heap} {tk:Nat} {I:Addr} (hf:∀ a o,Φ a = some o→s.heap.get? a = some o) (hk:∀ b o,b≠I→s.heap.get? b = some o→h'.get? b = some o) (hn:∃ o,s.heap.get? I = some o∧o.cls≠.type "frame") (hI:∃ o,h'.get? I = some o) (hΦ:Φ I = none) :
  Step (fun p=>p = I) Φ s Φ { s with heap:=h',toks:=tk }:=by
 refine ⟨rfl,rfl,fun a o e=>?_,Le.refl _,fun a e n=>absurd e n,fun a o e=>hk a o (fun z=>?_) (hf a o e),fun a o e f=>⟨o,hk a o (fun z=>?_) e,f⟩⟩
 ·by_cases q:a = I
  ·obtain ⟨o',h⟩:=hI
   exact ⟨o',q ▸ h,fun z=>absurd q z⟩
  ·exact ⟨o,hk a o q e,fun o9=>.inl rfl⟩
 ·rw [z,hΦ] at e; (first | exact dNS e | exact dSN e | (obtain rfl:=Option.some.inj e) | cases e)
 ·obtain ⟨o',h1,h2⟩:=hn
  rw [z,h1] at e; (first | (obtain rfl:=Option.some.inj e) | cases e); exact h2 f.1
theorem gsrc_of {K:Kx} {W:Addr→Prop} {Φ₁:Fz} {I:Addr} {ds:List D} {fz:Sk} {fp:List Addr} {St:Nat→Heap→Prop} {target:Expr} (src:Src K W Φ₁ I ds fz fp St):GSrc K target Φ₁ I ds (fun p=>p = I) fp St where
 item:=fun A hh i s Φ hi hst le hf hp Q E hQ=>by
  refine (src.walks A hh).item i s _ _ hi hst fun v h' tk hd hst' hk=>⟨v,rfl,?_⟩
  obtain ⟨d,hd,hr⟩:=hd
  obtain ⟨o,T,vs,h1,h2,h3,_⟩:=src.kind _ _ hst'
  exact letGo_ok h1 h2 h3 (hQ v d Φ _ hd (hr.mono le) (step_but hf (fun b o hb e=>hk b o (by simpa using hb) e) (src.nofr _ _ hst I ((src.walks A hh).sub I (by simp))) ⟨o,h1⟩ (hp I rfl)) hst' hp)
 done:=fun A hh s hst Q E hQ=>(src.walks A hh).done s _ _ hst fun h' tk hk=>hQ h' tk I rfl fun b o hb e=>hk b o (by simpa using hb) e
 self:=fun A hh s Q E hst hQ=>(src.walks A hh).self 0 s _ _ hst hQ
 frame:=fun i h h' hst hk=>(src.walks { } rfl).frame i _ _ hst hk
 kind:=fun i h p hst hp=>by
  obtain ⟨o,T,vs,h1,_,_,h4⟩:=src.kind i h hst
  cases hp; exact ⟨o,vs,h1,h4⟩
 nofr:=src.nofr
theorem GSrc.stays {K:Kx} {target:Expr} {Φ₁ Φ Φ':Fz} {I:Addr} {ds:List D} {pr W:Addr→Prop} {fp:List Addr} {St:Nat→Heap→Prop} {i:Nat} {s s':Shared} (src:GSrc K target Φ₁ I ds pr fp St) (hst:St i s.heap) (st:Step W Φ s Φ' s') (le:Le Φ₁ Φ) (hf:∀ a o,Φ a = some o→s.heap.get? a = some o)
  (hfp:∀ b∈fp,¬ W b∨(∃ o,Φ₁ b = some o)∨∃ o,s.heap.get? b = some o∧s'.heap.get? b = some o):St i s'.heap :=
 src.frame i _ _ hst fun b hb o e=>by
  rcases hfp b hb with h | ⟨of,h⟩ | ⟨o',h1,h2⟩
  ·obtain ⟨o',e',q⟩:=st.keep b o e
   rcases q h with rfl | ⟨hc,_⟩
   ·exact e'
   ·obtain ⟨ob,hob,hnf⟩:=src.nofr _ _ hst b hb
    rw [e] at hob; (first | (obtain rfl:=Option.some.inj hob) | cases hob); exact absurd hc hnf
  ·have e1:=hf b of (le _ _ h)
   rw [e] at e1; (first | exact dNS e1 | exact dSN e1 | (obtain rfl:=Option.some.inj e1) | cases e1)
   exact st.froz b o (st.le _ _ (le _ _ h))
  ·rw [e] at h1; (first | (obtain rfl:=Option.some.inj h1) | cases h1); exact h2
section
variable (K:Kx) (R:Rsc) (G:Ent) (sc:Scope) (env:Env) (ρ:Rho) (S:R.σ) (Φ:Fz) (s:Shared) (fz:Sk) (target:Expr)
inductive PIE (Q:List D→R.σ→Prop) (it:Value) (s₂:Shared):Prop
 | mk (Φ':Fz) (S':R.σ) (ds:List D) (I:Addr) (pr:Addr→Prop) (fp:List Addr) (St:Nat→Heap→Prop) (a:After K R G sc env ρ S Φ s S' Φ' s₂) (e:it = .ref I) (p:∀ p,pr p→s.heap.get? p = none∧Φ' p = none∧¬ R.fp S' p)
   (g:GSrc K target Φ' I ds pr fp St) (st:St 0 s₂.heap) (f:∀ b∈fp,pr b∨Held R S' Φ' s.heap fz b) (q:Q ds S')
end
noncomputable def WIE (n:Nat) (K:Kx) (R:Rsc) (sc:Scope) (ρ:Rho) (S:R.σ) (e:Expr) (fz:Sk) (target:Expr) (Q:List D→R.σ→Prop):Prop :=
 ∀ A G env Φ s,OkayG n A G→Inv K R G sc env ρ S Φ s →
  wpAny K.M A (eval e env) (fun x s₁=>wpAny K.M A (pyIter x) (PIE K R G sc env ρ S Φ s fz target Q) (fun o9 o9=>False) s₁) (fun o9 o9=>False) s
theorem WI.e {n:Nat} {K:Kx} {R:Rsc} {sc:Scope} {ρ:Rho} {S:R.σ} {e:Expr} {fz:Sk} {target:Expr} {Q:List D→R.σ→Prop} (h:WI n K R sc ρ S e fz Q):WIE n K R sc ρ S e fz target Q:=fun A G env Φ s ok I =>
 wpAny_mono (h A G env Φ s ok I) (fun x s₁ h₁=>wpAny_mono h₁ (fun it s₂ p=>by
  cases p with
  | mk Φ' S' ds I fp St a e n f w at_ q=>exact .mk Φ' S' ds I _ fp St a e (fun p hp=>by cases hp; exact ⟨n,f,w⟩) (gsrc_of at_.src) at_.st at_.fp q) fun o9 o9 x=>x) fun o9 o9 x=>x
structure PrAt (R:Rsc) (S:R.σ) (G:Ent) (s₀:Shared) (pr:Addr→Prop) (Φ₁ Φ:Fz):Prop where
 le:Le Φ₁ Φ
 no:∀ p,pr p→Φ p = none∧¬ R.fp S p∧G.s.heap.get? p = none∧s₀.heap.get? p = none
theorem flat_take {f:D→List PyData} {ds:List D} {i:Nat} {d:D} (h:ds[i]? = some d):(ds.take (i + 1)).flatMap f = (ds.take i).flatMap f ++ f d:=by
 rw [List.take_add_one,h,List.flatMap_append]
 simp only [Option.toList_some,List.flatMap_cons,List.flatMap_nil,List.append_nil]
theorem flat_len {f:D→List PyData} {ds:List D} {i:Nat} {d:D} (h:ds[i]? = some d):((ds.take i).flatMap f).length + (f d).length≤(ds.flatMap f).length:=by
 have e:ds.flatMap f = (ds.take (i + 1)).flatMap f ++ (ds.drop (i + 1)).flatMap f:=by rw [← List.flatMap_append,List.take_append_drop]
 rw [e,flat_take h,List.length_append,List.length_append]
 exact Nat.le_add_right ..
section
variable {n:Nat} {K:Kx} {R:Rsc} {G:Ent} {sc:Scope} {env:Env} {ρ:Rho} {S:R.σ} {Φ₀:Fz} {s₀:Shared} {a:Addr}
theorem CI.notTmp {ys:List PyData} {Φ:Fz} {s:Shared} {p:Addr} (C:CI K R G sc env ρ S Φ₀ s₀ a ys Φ s) (hf:¬ R.fp S p) (h:∃ o vs,s.heap.get? p = some o∧o.data = .fields vs):¬ Tmp R S G env a p:=by
 obtain ⟨o,vs,ho,hd⟩:=h
 rintro (q | q | q | ⟨x,q1,q2⟩)
 ·exact hf q
 ·obtain ⟨_,oa,_,_,hoa,_,hda,_⟩:=C.acc
  rw [q] at ho; rw [ho] at hoa; (first | (obtain rfl:=Option.some.inj hoa) | cases hoa); rw [hd] at hda; (first | exact dNS hda | exact dSN hda | (obtain rfl:=Option.some.inj hda) | cases hda)
 ·exact C.inv.locals_ne ho (by first | exact nDF hd | exact nSF hd | exact nSD hd | exact nDS hd | (rw [hd]; intro o9 o9 z; cases z)) q
 ·exact C.inv.cells_ne ho (by first | exact nCF hd | exact nCD hd | exact nCS hd | (rw [hd]; intro o9 z; cases z)) x _ q2 rfl
theorem Step.moved {W:Addr→Prop} {Φ Φ':Fz} {s s':Shared} {h':Heap} {tk:Nat} {p:Addr} (x:Step W Φ s Φ' s') (hk:∀ b o,b≠p→s'.heap.get? b = some o→h'.get? b = some o) (hN:s.heap.get? p = none) (hΦ:Φ' p = none):Step W Φ s Φ' { s' with heap:=h',toks:=tk }:=by
 have ne:∀ b o,s.heap.get? b = some o→b≠p:=fun b o e z=>by rw [z,hN] at e; exact dNS e
 exact ⟨x.gens,x.os,fun b o e=>let ⟨o',e',q⟩:=x.keep b o e; ⟨o',hk b o' (ne b o e) e',q⟩,x.le,x.new,fun b o e=>hk b o (fun z=>by rw [z,hΦ] at e; exact dNS e) (x.froz b o e),fun b o e f=>let ⟨o',e',q⟩:=x.fr b o e f; ⟨o',hk b o' (ne b o e) e',q⟩⟩
section
variable (K:Kx) (R:Rsc) (G:Ent) (sc:Scope) (env:Env) (ρ:Rho) (S:R.σ) (Φ₀:Fz) (s₀:Shared) (a:Addr) (ds:List D) (f:D→List PyData) (ys:List PyData) (pr:Addr→Prop) (Φ₁ Φb:Fz) (sb:Shared) (St:Nat→Heap→Prop)
inductive CL (k:Nat) (s':Shared):Prop
 | mk (i:Nat) (Φ':Fz) (C:CI K R G sc env ρ S Φ₀ s₀ a (ys ++ (ds.take i).flatMap f) Φ' s') (p:PrAt R S G s₀ pr Φ₁ Φ') (st:St i s'.heap) (hi:i≤ds.length) (hk:k = ds.length - i) (sx:Step (Tmp R S G env a) Φb sb Φ' s')
end
theorem comp_loop {A:Around} {elt:Expr} {target:Expr} {gens:List Comprehension} {scope:Scope} {pos pp:Pos} {depth:Nat} {T:Value→Sem Fin} {I:Addr} {ds:List D} {fz:Sk} {pr:Addr→Prop} {fp:List Addr} {St:Nat→Heap→Prop}
  {Φ₁:Fz} {f:D→List PyData} {RR:Result→Shared→Prop} (ok:Okay n A) (hpos:0 < n)
  (hT:compTurn (.ListComp elt gens scope pos) depth (.ref I) (.ref a) env = (do standAt pp; match ← pyNext (.ref I) with | none=>pure (.done .next) | some v=>(do letOwnedTupleGo target (.ref I) v; T v)))
  (src:GSrc K target Φ₁ I ds pr fp St) (hfp:∀ b∈fp,pr b∨Held R S Φ₁ s₀.heap fz b)
  (turn:∀ d v Φ s ys,d∈ds→CI K R G sc env ρ S Φ₀ s₀ a ys Φ s→Rep Φ d v →
   (ys.length + (f d).length≤sizeLine) →
   wpAny K.M A (T v) (fun fin s'=>∃ Φ',fin = .again (.compLoop (.ListComp elt gens scope pos) depth (.ref I) (.ref a) env)∧CI K R G sc env ρ S Φ₀ s₀ a (ys ++ f d) Φ' s'∧Step (Tmp R S G env a) Φ s Φ' s') (fun o9 o9=>False) s)
  {ys:List PyData} {Φ:Fz} {s:Shared} (C:CI K R G sc env ρ S Φ₀ s₀ a ys Φ s) (it:PrAt R S G s₀ pr Φ₁ Φ) (hst:St 0 s.heap) (hsz:ys.length + (ds.flatMap f).length≤sizeLine)
  {Φb:Fz} {sb:Shared} (hb:Step (Tmp R S G env a) Φb sb Φ s) (hbp:∀ p,pr p→sb.heap.get? p = none)
  (hR:∀ Φ' s',CI K R G sc env ρ S Φ₀ s₀ a (ys ++ ds.flatMap f) Φ' s'→Step (Tmp R S G env a) Φb sb Φ' s'→RR (.ok .next) s') :
  codeAny K.M A (.compLoop (.ListComp elt gens scope pos) depth (.ref I) (.ref a) env) RR s:=by
 refine codeAny_loop rfl (CL K R G sc env ρ S Φ₀ s₀ a ds f ys pr Φ₁ Φb sb St) ?_ (ds.length) (.mk 0 Φ (by rw [List.take_zero,List.flatMap_nil,List.append_nil]; exact C) it hst (Nat.zero_le _) rfl hb)
 intro k s₁ h
 cases h with
 | mk i Φ' C₁ it₁ hst₁ hi hk sx =>
 show wpAny K.M A ((compTurn (.ListComp elt gens scope pos) depth (.ref I) (.ref a) env).onRaise (fun x=>do noteFrame x env; theTreesLotGoes x)) _ _ s₁
 refine wpAny_noted ?_
 rw [hT]
 refine wpAny_bind (wpAny_standAt (wpAny_bind ?_))
 by_cases hlt:i < ds.length
 ·refine wpAny_mono (Q:=fun r s₂=>∃ v,r = some v∧wpAny K.M A (letOwnedTupleGo target (.ref I) v) (fun o9 s'=>wpAny K.M A (T v) _ _ s') _ s₂) (src.item A (ok.hd hpos) i s₁ Φ' hlt hst₁ it₁.le C₁.inv.froz (fun p hp=>(it₁.no p hp).1) _ _ fun v d Φ₂ s₂ hd hr st₂ hst' hpn=>?_) (fun r s₂ h=>by obtain ⟨v,e,h⟩:=h; subst e; exact wpAny_bind h) fun o9 o9 x=>x
  have C₂:=C₁.privF st₂ fun p hp=>⟨(it₁.no p hp).2.1,(it₁.no p hp).2.2.1,(it₁.no p hp).2.2.2,fun o e=>by
   obtain ⟨o',vs,e',hd⟩:=src.kind i _ p hst₁ hp
   rw [e] at e'; (first | (obtain rfl:=Option.some.inj e') | cases e'); exact ⟨vs,hd⟩⟩
  refine wpAny_mono (turn d v Φ₂ _ _ (List.mem_of_getElem? hd) C₂ hr (by rw [List.length_append,Nat.add_assoc]; exact Nat.le_trans (Nat.add_le_add_left (flat_len hd) _) hsz)) (fun fin s₃ h=>?_) fun o9 o9 x=>x.elim
  obtain ⟨Φ₃,e,C₃,st⟩:=h
  subst e
  have noTmp:∀ p,pr p→¬ Tmp R S G env a p:=fun p hp=>C₂.notTmp (it₁.no p hp).2.1 (src.kind (i + 1) _ p hst' hp)
  refine ⟨rfl,ds.length - (i + 1),by rw [hk]; exact Nat.sub_lt_sub_left hlt (Nat.lt_succ_self i),.mk (i + 1) Φ₃ (by rw [flat_take hd,← List.append_assoc]; exact C₃) ⟨(it₁.le.trans st₂.le).trans st.le,fun p hp=>⟨?_,(it₁.no p hp).2⟩⟩ ?_ hlt rfl ((sx.trans st₂ fun b hb=>.inr (hbp b hb)).trans st fun b hb=>.inl hb)⟩
  ·obtain ⟨o,vs,ho,_⟩:=src.kind (i + 1) _ p hst' hp
   exact st.noneΦ (hpn p hp) ho (noTmp p hp)
  ·refine src.stays hst' st (it₁.le.trans st₂.le) C₂.inv.froz fun b hb=>?_
   rcases hfp b hb with h | h | ⟨_,⟨o₀,h⟩,hw⟩ | ⟨_,op,hp⟩
   ·exact .inl (noTmp b h)
   ·exact .inr (.inl h)
   ·refine .inl fun q=>?_
    rcases C₂.tmp b q with q | q
    ·exact hw q
    ·rw [h] at q; (first | exact dNS q | exact dSN q | (obtain rfl:=Option.some.inj q) | cases q)
   ·exact .inr (.inr ⟨op,hp _ _ C₂.inv.rsc,hp _ _ C₃.inv.rsc⟩)
 ·have hin:i = ds.length:=Nat.le_antisymm hi (Nat.not_lt.mp hlt)
  subst hin
  refine src.done A (ok.hd hpos) s₁ hst₁ _ _ fun h' tk p hp hk=>?_
  obtain ⟨h1,h2,h3,h4⟩:=it₁.no p hp
  obtain ⟨o,vs,ho,hd⟩:=src.kind _ _ p hst₁ hp
  have C₂:=C₁.moved (tk:=tk) hk ho hd h1 h2 h3 h4
  rw [List.take_length] at C₂
  exact wpAny_pure (hR _ _ C₂ (sx.moved hk (hbp p hp) h1))
end
section
variable (n:Nat) (K:Kx) (R:Rsc) (sc:Scope) (ρ:Rho) (S:R.σ)
noncomputable def Elt (elt:Expr) (zs:List PyData):Prop:=WE n K R sc ρ S elt fun d S'=>S' = S∧∃ y,d = .py y∧zs = [y]
noncomputable def Emits:List Expr→Expr→List PyData→Prop
 | [],elt,zs=>Elt n K R sc ρ S elt zs
 | [c],elt,zs=>WT n K R sc ρ S c fun b S'=>S' = S∧if b then Elt n K R sc ρ S elt zs else zs = []
 | _,_,_=>False
end
structure Tgt (n:Nat) (K:Kx) (R:Rsc) (sc:Scope) (mine:Str→Bool) (t:Expr) (d:D) (ρ ρ':Rho):Prop where
 asg:∃ xs f,Asg n K R sc t d xs f∧(∀ x∈xs,mine x = true)∧f ρ = ρ'∧∀ y es,ρ'.lookup y = some (.own es)→y∉xs∧ρ.lookup y = some (.own es)
 sub:Sub ρ ρ'
section
variable {n:Nat} {K:Kx} {R:Rsc} {G:Ent} {sc:Scope} {env:Env} {ρ ρ':Rho} {S:R.σ} {Φ₀ Φ:Fz} {s₀ s:Shared} {a:Addr} {ys zs:List PyData}
theorem tgt_name {x:Str} {p:Pos} {d:D} {mine:Str→Bool} (hx:isVar sc x = true) (hm:mine x = true) (hn:ρ.lookup x = none):Tgt n K R sc mine (.Name x p) d ρ ((x,.val d) :: ρ):=by
 refine ⟨⟨[x],_,asg_name hx,by simpa using hm,rfl,fun y es hy=>?_⟩,fun y sl hy=>?_⟩
 ·by_cases q:y = x
  ·subst q; rw [lookup_cons_self] at hy; (first | exact dNS hy | exact dSN hy | (obtain rfl:=Option.some.inj hy) | cases hy)
  ·rw [lookup_cons_ne q] at hy; exact ⟨by simpa using q,hy⟩
 ·rw [lookup_cons_ne (fun q=>by subst q; rw [hn] at hy; (first | exact dNS hy | exact dSN hy | (obtain rfl:=Option.some.inj hy) | cases hy))]; exact hy
theorem tgt_pair {x y:Str} {px py p:Pos} {k:Nat} {d e:PyData} {mine:Str→Bool} (hx:isVar sc x = true) (hy:isVar sc y = true) (hm:mine x = true) (hm':mine y = true) (hn:ρ.lookup x = none) (hn':ρ.lookup y = none) (hpos:0 < n:=by first | exact Nat.succ_pos _ | omega) :
  Tgt n K R sc mine (.Tuple [.Name x px,.Name y py] k p) (.tup [d,e]) ρ ((y,.val (.py e)) :: (x,.val (.py d)) :: ρ):=by
 refine ⟨⟨[x,y],_,asg_pair hx hy hpos,fun z hz=>?_,rfl,fun z es hz=>?_⟩,fun z sl hz=>?_⟩
 ·simp at hz; rcases hz with rfl | rfl <;> assumption
 ·by_cases q:z = y
  ·subst q; rw [lookup_cons_self] at hz; (first | exact dNS hz | exact dSN hz | (obtain rfl:=Option.some.inj hz) | cases hz)
  ·rw [lookup_cons_ne q] at hz
   by_cases q':z = x
   ·subst q'; rw [lookup_cons_self] at hz; (first | exact dNS hz | exact dSN hz | (obtain rfl:=Option.some.inj hz) | cases hz)
   ·rw [lookup_cons_ne q'] at hz; exact ⟨by simp [q,q'],hz⟩
 ·rw [lookup_cons_ne (fun q=>by subst q; rw [hn'] at hz; (first | exact dNS hz | exact dSN hz | (obtain rfl:=Option.some.inj hz) | cases hz)),lookup_cons_ne (fun q=>by subst q; rw [hn] at hz; (first | exact dNS hz | exact dSN hz | (obtain rfl:=Option.some.inj hz) | cases hz))]; exact hz
theorem comp_elt {A:Around} {elt:Expr} {Q:Unit→Shared→Prop} (ok:OkayG n A G) (C:CI K R G sc env ρ S Φ₀ s₀ a ys Φ s) (em:Elt n K R sc ρ S elt zs) (hsz:ys.length + zs.length≤sizeLine)
  (h:∀ Φ' s',CI K R G sc env ρ S Φ₀ s₀ a (ys ++ zs) Φ' s'→Step (Tmp R S G env a) Φ s Φ' s'→Q () s') :
  wpAny K.M A (do let _ ← call (.builtin "list.append") [.ref a,← eval elt env]) Q (fun o9 o9=>False) s:=by
 refine wpAny_bind (wpAny_mono (em A G env Φ s ok C.inv) (fun v s₁ hp0=>?_) fun o9 o9 x=>x)
 obtain ⟨Φ₁,S₁,d,x,r,e,y,e₂,e₃⟩:=hp0
 subst e e₂ e₃
 have C₁:=C.after x
 refine wpAny_bind (C₁.append r (by simp at hsz; grows_one) fun s₂ C₂ st=>wpAny_pure (h _ _ C₂ ((x.step.weaken fun b hb=>.inl hb).trans st fun b hb=>.inl hb)))
theorem comp_emit {A:Around} {elt:Expr} {ifs:List Expr} {Q:Fin→Shared→Prop} {c:Code} (ok:OkayG n A G) (C:CI K R G sc env ρ S Φ₀ s₀ a ys Φ s) (em:Emits n K R sc ρ S ifs elt zs) (hsz:ys.length + zs.length≤sizeLine)
  (h:∀ Φ' s',CI K R G sc env ρ S Φ₀ s₀ a (ys ++ zs) Φ' s'→Step (Tmp R S G env a) Φ s Φ' s'→Q (.again c) s') :
  wpAny K.M A (do
    let mut ok:=true
    for c in ifs do
     if ok then ok ← isTrue c env (eval c env)
    if ok then
     (do let _ ← call (.builtin "list.append") [.ref a,← eval elt env])
    again c) Q (fun o9 o9=>False) s:=by
 have fin:∀ Φ₁ s₁,Step (R.fp S) Φ s Φ₁ s₁→CI K R G sc env ρ S Φ₀ s₀ a ys Φ₁ s₁→Elt n K R sc ρ S elt zs→wpAny K.M A (do
    (do let _ ← call (.builtin "list.append") [.ref a,← eval elt env])
    again c) Q (fun o9 o9=>False) s₁:=fun Φ₁ s₁ st C₁ em=>by
  refine wpAny_bind (comp_elt ok C₁ em hsz fun Φ₂ s₂ C₂ st₂=>wpAny_pure (h _ _ C₂ ((st.weaken fun b hb=>.inl hb).trans st₂ fun b hb=>.inl hb)))
 match ifs,em with
 | [],em =>
  refine wpAny_bind (wpAny_tests_nil ?_)
  exact fin Φ s (.refl C.inv.froz) C em
 | [t],em =>
  refine wpAny_bind (wpAny_tests_one (wpAny_mono (em A G env Φ s ok C.inv) (fun b s₁ hp0=>?_) fun o9 o9 x=>x))
  obtain ⟨Φ₁,S₁,x,e,q⟩:=hp0
  subst e
  have C₁:=C.after x
  cases b with
  | true=>exact fin Φ₁ s₁ x.step C₁ (by simpa using q)
  | false =>
   have q:zs = []:=by simpa using q
   subst q
   refine wpAny_pure (h Φ₁ s₁ (by simpa using C₁) (x.step.weaken fun b hb=>.inl hb))
end
section
variable {n:Nat} {K:Kx} {R:Rsc} {G:Ent} {sc:Scope} {env:Env} {ρ ρc:Rho} {S:R.σ} {Φ:Fz} {s:Shared}
theorem comp_head {A:Around} {E:Value→Shared→Prop} {elt target iter:Expr} {ifs:List Expr} {more:List Comprehension} {scope:Scope} {pos cpos:Pos} {use:Option (Value→Sem Unit)} {Q:Value→Shared→Prop} {fz:Sk} {ds:List D} {first:Sem Value}
  (ok:OkayG n A G) (hpos:0 < n) (I:Inv K R G sc env ρ S Φ s) (hsc:ScopeOk scope sc) (hsrc:wpAny K.M A first (fun x s₁=>wpAny K.M A (pyIter x) (PIE K R G sc env ρ S Φ s fz target fun ds' S'=>S' = S∧ds' = ds) (fun o9 o9=>False) s₁) (fun o9 o9=>False) s) (hρ:RhoIn scope sc ρ ρc) (hs:∀ env x,foldedSetIterable iter env x = pure x)
  (h:∀ cenv a I₁ pr fp St Φ₁ s₁,CI K R { G with mine:=mineOf scope } (relabelS scope sc) cenv ρc S Φ s a [] Φ₁ s₁→PrAt R S { G with mine:=mineOf scope } s pr Φ₁ Φ₁ →
   GSrc K target Φ₁ I₁ ds pr fp St→St 0 s₁.heap→(∀ b∈fp,pr b∨Held R S Φ₁ s.heap fz b) →
   codeAny K.M A (.compLoop (.ListComp elt (⟨target,iter,ifs,0⟩ :: more) scope pos) 0 (.ref I₁) (.ref a) cenv) (compPost K.M A E use Q (.ref a) cenv.locals) s₁) :
  wpAny K.M A (comprehension (.ListComp elt (⟨target,iter,ifs,0⟩ :: more) scope pos) scope env cpos (newList []) false first use) Q E s:=by
 refine wpAny_comprehension_free (g:=⟨target,iter,ifs,0⟩) (gs:=more) rfl (hs env) (closure_eq fun y hy hk=>I.celA _ (hsc.free y hy hk)) hsc.kind (fun y hy hk=>by rw [hsc.once y hy,hk]) ?_
 refine wpAny_mono hsrc (fun x s₁ h₁=>wpAny_mono h₁ (fun it s₂ p=>?_) fun o9 o9 x=>x.elim) fun o9 o9 x=>x.elim
 cases p with
 | mk Φ₂ S₂ ds' I₁ pr fp St x₂ e hpr src hst hfp q =>
 obtain ⟨e1,e2⟩:=q
 subst e e1 e2
 refine wpAny_newObj_type (T:="list") (data:=.seq ([]:List Value).toArray) ?_ (Nat.zero_le sizeLine)
 have hn:=heap_size_none s₂.heap
 have st₃:=step_push { cls:=.type "list",data:=.seq ([]:List Value).toArray } x₂.inv.froz
 have x₃:=x₂.pure st₃
 have own₃:Owns Φ₂ (s₂.heap.push { cls:=.type "list",data:=.seq ([]:List Value).toArray }) s₂.heap.objs.size []:=⟨none_of_fresh x₂.inv.froz hn,_,_,_,Heap.get?_push_size _ rfl,⟨rfl,rfl,rfl⟩,rfl,rfl⟩
 refine comp_env (ρc:=ρc) x₃.inv hsc hρ fun cenv s₄ I₄ st₄ hloc hcel hold=>?_
 have hst4:St 0 s₄.heap:=src.stays hst (st₃.trans st₄ fun b hb=>hb.elim) (Le.refl _) x₂.inv.froz fun b hb=>.inl fun z=>z.elim
 have loop:=h { cenv with scope:=relabel scope env } s₂.heap.objs.size I₁ pr fp St Φ₂ s₄ ⟨I₄,x₃.step.trans st₄ fun b hb=>hb.elim,own₃.of_step st₄ (fun z=>z.elim),heap_none_of_step x₂.step hn,x₂.inv.gone hn,fp_fresh x₂.inv hn,heap_none_of_step x₃.step hloc,fun x c hm hc=>heap_none_of_step x₃.step (hcel x c hm hc),fun x es b hx hv=>by
   obtain ⟨q1,q2⟩:=hold x es b hx hv
   obtain ⟨ad,h1,_⟩:=I.owns
   obtain ⟨a1,⟨_,o,_,_,ho,_⟩,_⟩:=h1 x es q1
   have:=VarIs.inj q2 (a1.of_step x₃.step I.nsW fun z c hc=>(I.cel z c hc).nfp)
   (first | (obtain rfl:=Value.ref.inj this) | cases this)
   exact ⟨o,ho⟩⟩ ⟨Le.refl _,fun p hp=>⟨(hpr p hp).2.1,(hpr p hp).2.2,I.gone (hpr p hp).1,(hpr p hp).1⟩⟩ src hst4 hfp
 exact codeAny_compStart_list loop (src.self A (ok.hd hpos) s₄ _ _ hst4 loop)
theorem comp_after {cenv:Env} {a:Addr} {ys:List PyData} {Φ':Fz} {s':Shared} {h':Heap} {scc:Scope} {G':Ent} (I:Inv K R G sc env ρ S Φ s) (C:CI K R G' scc cenv ρc S Φ s a ys Φ' s') (hs:Heap.SameBut cenv.locals s'.heap h') :
  After K R G sc env ρ S Φ s S Φ' { s' with heap:=h' }∧Owns Φ' h' a ys∧¬ R.fp S a∧s.heap.get? a = none:=by
 have hk:∀ b o,b≠cenv.locals→s'.heap.get? b = some o→h'.get? b = some o:=fun b o hb e=>by rw [hs.2 b hb]; exact e
 have fz:∀ b o,Φ' b = some o→h'.get? b = some o:=fun b o e=>hk b o (fun q=>by rw [q,C.inv.nsΦ] at e; (first | exact dNS e | exact dSN e | (obtain rfl:=Option.some.inj e) | cases e)) (C.inv.froz b o e)
 have st:Step (R.fp S) Φ s Φ' { s' with heap:=h' }:=⟨C.step.gens,C.step.os,fun b o e=>by
  obtain ⟨o',e',q⟩:=C.step.keep b o e
  exact ⟨o',hk b o' (fun z=>by rw [z,C.locN] at e; (first | exact dNS e | exact dSN e | (obtain rfl:=Option.some.inj e) | cases e)) e',q⟩,C.step.le,C.step.new,fz,fun b o e f=>by
  obtain ⟨o₁,e₁,f₁⟩:=C.step.fr b o e f
  exact ⟨o₁,hk b o₁ (fun z=>by rw [z,C.locN] at e; (first | exact dNS e | exact dSN e | (obtain rfl:=Option.some.inj e) | cases e)) e₁,f₁⟩⟩
 have rk:R.ok S Φ' h':=R.stable C.inv.rsc (fun b o e hf=>hk b o (fun q=>C.inv.nsW (q ▸ hf)) e) (Le.refl _) fun b hf=>(R.there C.inv.rsc hf).no'
 refine ⟨⟨I.step st .refl rk,st,.refl⟩,?_,C.accF,C.accN⟩
 obtain ⟨f,o,vs,m,ho,r1,r2,r3⟩:=C.acc
 exact ⟨f,o,vs,m,hk a o (C.inv.locals_ne ho (by first | exact nDF r2 | exact nSF r2 | exact nSD r2 | exact nDS r2 | (rw [r2]; intro o9 o9 q; cases q))) ho,r1,r2,r3⟩
theorem comp1_turn {A:Around} {elt target:Expr} {ifs:List Expr} {a:Addr} {cenv:Env} {v:Value} {d:D} {zs ys:List PyData} {scc:Scope} {G':Ent} {Φ₀ Φ₁:Fz} {s₀ s₁:Shared} {ρ':Rho} {c:Code} (ok:OkayG n A G')
  (C:CI K R G' scc cenv ρc S Φ₀ s₀ a ys Φ₁ s₁) (hr:Rep Φ₁ d v)
  (tg:Tgt n K R scc G'.mine target d ρc ρ') (em:Emits n K R scc ρ' S ifs elt zs) (hsz:ys.length + zs.length≤sizeLine) :
  wpAny K.M A (do
    assign target cenv v
    let mut ok:=true
    for c in ifs do
     if ok then ok ← isTrue c cenv (eval c cenv)
    if ok then
     (do let _ ← call (.builtin "list.append") [.ref a,← eval elt cenv])
    again c) (fun fin s'=>∃ Φ',fin = .again c∧CI K R G' scc cenv ρc S Φ₀ s₀ a (ys ++ zs) Φ' s'∧Step (Tmp R S G' cenv a) Φ₁ s₁ Φ' s') (fun o9 o9=>False) s₁:=by
 obtain ⟨xs,f,ha,hm,e,hown⟩:=tg.asg
 subst e
 refine wpAny_bind (ha A G' cenv ρc S Φ₁ s₁ v ok hm C.inv hr _ _ fun s₂ I₂ st₂ ot₂=>?_)
 have C₂:=C.bound hm I₂ st₂ ot₂ hown
 have w:∀ b,Places cenv xs b→Tmp R S G' cenv a b:=fun b hb=>by
  rcases hb with h | ⟨x,hx,hc⟩
  ·exact .inr (.inr (.inl h))
  ·exact .inr (.inr (.inr ⟨x,hm x hx,hc⟩))
 exact comp_emit ok C₂ em hsz fun Φ' s' C' st'=>⟨Φ',rfl,C'.sub tg.sub,(st₂.weaken w).trans st' fun b hb=>.inl hb⟩
variable {α:Type}
theorem comp1 {A:Around} {E:Value→Shared→Prop} {elt target iter:Expr} {ifs:List Expr} {scope:Scope} {pos cpos:Pos} {use:Option (Value→Sem Unit)} {Q:Value→Shared→Prop} {fz:Sk} {l:List α} {enc:α→D} {g:α→List PyData} {ρ':α→Rho}
  (ok:OkayG n A G) (hpos:0 < n) (I:Inv K R G sc env ρ S Φ s) (hsc:ScopeOk scope sc) (hsrc:WIE n K R sc ρ S iter fz target fun ds' S'=>S' = S∧ds' = l.map enc) (hρ:RhoIn scope sc ρ ρc) (hs:∀ env x,foldedSetIterable iter env x = pure x)
  (inj:∀ x∈l,∀ y∈l,enc x = enc y→g x = g y)
  (tg:∀ x∈l,Tgt n K R (relabelS scope sc) (mineOf scope) target (enc x) ρc (ρ' x)) (em:∀ x∈l,Emits n K R (relabelS scope sc) (ρ' x) S ifs elt (g x)) (hsz:(l.flatMap g).length≤sizeLine)
  (h:∀ cenv a Φ' s',CI K R { G with mine:=mineOf scope } (relabelS scope sc) cenv ρc S Φ s a (l.flatMap g) Φ' s'→compPost K.M A E use Q (.ref a) cenv.locals (.ok .next) s') :
  wpAny K.M A (comprehension (.ListComp elt [⟨target,iter,ifs,0⟩] scope pos) scope env cpos (newList []) false (eval iter env) use) Q E s:=by
 classical
 let f:D→List PyData:=fun d=>if hx:∃ x∈l,enc x = d then g hx.choose else []
 have hf:∀ x∈l,f (enc x) = g x:=fun x hx=>by
  have hex:∃ y∈l,enc y = enc x:=⟨x,hx,rfl⟩
  show (if hx:∃ y∈l,enc y = enc x then g hx.choose else []) = g x
  rw [dif_pos hex]
  exact inj _ hex.choose_spec.1 _ hx hex.choose_spec.2
 have hfm:∀ l':List α,(∀ x∈l',x∈l)→(l'.map enc).flatMap f = l'.flatMap g:=fun l'=>by
  induction l' with
  | nil=>intro o9; rfl
  | cons x r ih =>
   intro hm
   rw [List.map_cons,List.flatMap_cons,List.flatMap_cons,hf x (hm x (.head _)),ih fun y hy=>hm y (.tail _ hy)]
 refine comp_head ok hpos I hsc (hsrc A G env Φ s ok I) hρ hs fun cenv a I₁ pr fp St Φ₁ s₁ C it src hst hfp=>?_
 refine comp_loop (f:=f) (target:=target) ok.toOkay hpos (T:=fun v=>(do
    assign target cenv v
    let mut ok:=true
    for c in ifs do
     if ok then ok ← isTrue c cenv (eval c cenv)
    if ok then
     (do let _ ← call (.builtin "list.append") [.ref a,← eval elt cenv])
    again (.compLoop (.ListComp elt [⟨target,iter,ifs,0⟩] scope pos) 0 (.ref I₁) (.ref a) cenv))) (pp:=iter.pos) (compTurn_list ..) src hfp (fun d v Φ₂ s₂ ys hd C₂ hr hlen=>?_) C it hst (by rw [hfm l fun x hx=>hx,List.length_nil,Nat.zero_add]; exact hsz) (C.step.weaken fun b hb=>.inl hb) (fun p hp=>(it.no p hp).2.2.2) fun Φ' s' C' o9=>h cenv a Φ' s' (by rw [hfm l fun x hx=>hx,List.nil_append] at C'; exact C')
 obtain ⟨x,hx,rfl⟩:=List.mem_map.mp hd
 rw [hf x hx] at hlen ⊢
 exact comp1_turn ⟨ok.toOkay,ok.fr⟩ C₂ hr (tg x hx) (em x hx) hlen
theorem wf_compE {elt target iter:Expr} {ifs:List Expr} {scope:Scope} {pos:Pos} {Q:List PyData→R.σ→Prop} (ρc:Rho) (fz:Sk) (l:List α) (enc:α→D) (g:α→List PyData) (ρ':α→Rho)
  (hsrc:WIE n K R sc ρ S iter fz target fun ds' S'=>S' = S∧ds' = l.map enc) (hρ:RhoIn scope sc ρ ρc)
  (inj:∀ x∈l,∀ y∈l,enc x = enc y→g x = g y)
  (tg:∀ x∈l,Tgt n K R (relabelS scope sc) (mineOf scope) target (enc x) ρc (ρ' x)) (em:∀ x∈l,Emits n K R (relabelS scope sc) (ρ' x) S ifs elt (g x)) (hsz:(l.flatMap g).length≤sizeLine)
  (q:Q (l.flatMap g) S) (hsc:scopeOk scope sc = true:=by rfl) (hs:∀ env x,foldedSetIterable iter env x = pure x:=by intro o9 o9; rfl) (hpos:0 < n:=by first | exact Nat.succ_pos _ | omega):WF n K R sc ρ S (.ListComp elt [⟨target,iter,ifs,0⟩] scope pos) Q :=
 fun A G env Φ s ok I=>by
  show wpAny K.M A (comprehension (.ListComp elt [⟨target,iter,ifs,0⟩] scope pos) scope env iter.pos (newList []) false (eval iter env)) _ _ _
  refine comp1 ok hpos I (ScopeOk.of hsc) hsrc hρ hs inj tg em hsz fun cenv a Φ' s' C=>?_
  obtain ⟨m,hn⟩:=C.inv.ns
  refine ⟨m,hn,fun h' hs'=>?_⟩
  obtain ⟨x,o,f,e⟩:=comp_after I C hs'
  exact ⟨Φ',S,_,a,x,rfl,o,f,e,q⟩
theorem wf_comp1 {elt target iter:Expr} {ifs:List Expr} {scope:Scope} {pos:Pos} {Q:List PyData→R.σ→Prop} (ρc:Rho) (fz:Sk) (l:List α) (enc:α→D) (g:α→List PyData) (ρ':α→Rho)
  (hsrc:WI n K R sc ρ S iter fz fun ds' S'=>S' = S∧ds' = l.map enc) (hρ:RhoIn scope sc ρ ρc)
  (inj:∀ x∈l,∀ y∈l,enc x = enc y→g x = g y)
  (tg:∀ x∈l,Tgt n K R (relabelS scope sc) (mineOf scope) target (enc x) ρc (ρ' x)) (em:∀ x∈l,Emits n K R (relabelS scope sc) (ρ' x) S ifs elt (g x)) (hsz:(l.flatMap g).length≤sizeLine)
  (q:Q (l.flatMap g) S) (hsc:scopeOk scope sc = true:=by rfl) (hs:∀ env x,foldedSetIterable iter env x = pure x:=by intro o9 o9; rfl) (hpos:0 < n:=by first | exact Nat.succ_pos _ | omega):WF n K R sc ρ S (.ListComp elt [⟨target,iter,ifs,0⟩] scope pos) Q :=
 wf_compE ρc fz l enc g ρ' hsrc.e hρ inj tg em hsz q hsc hs hpos
end
section
variable {K:Kx} {R:Rsc} {G:Ent} {sc:Scope} {env:Env} {ρ:Rho} {S:R.σ} {Φ:Fz} {s s':Shared}
theorem Inv.priv {W:Addr→Prop} (I:Inv K R G sc env ρ S Φ s) (st:Step W Φ s Φ s') (hW:∀ a,W a→¬ R.fp S a∧G.s.heap.get? a = none∧∀ o,s.heap.get? a = some o→∃ vs,o.data = .fields vs):Inv K R G sc env ρ S Φ s':=by
 obtain ⟨m,hm⟩:=I.ns
 have hm0:=hm
 obtain ⟨om,es,ep,hom,hdm,_⟩:=hm0
 have nL:¬ W env.locals:=fun q=>by obtain ⟨vs,z⟩:=(hW _ q).2.2 om hom; rw [hdm] at z; (first | exact dNS z | exact dSN z | (obtain rfl:=Option.some.inj z) | cases z)
 have nC:∀ x c,env.cells.lookup x = some c→¬ W c:=fun x c h q=>by
  obtain ⟨⟨v,oc,hoc,hd⟩,_⟩:=I.cel x c h
  obtain ⟨vs,z⟩:=(hW _ q).2.2 oc hoc; rw [hd] at z; (first | exact dNS z | exact dSN z | (obtain rfl:=Option.some.inj z) | cases z)
 refine ⟨I.base,st.froz,I.scp,I.kind,I.globs,I.blts,⟨m,Ns.of_step st hm nL⟩,I.nsΦ,I.nsW,I.nsG,fun x c h=>?_,I.celG,I.celA,I.celD,fun x d h=>?_,?_,R.stable I.rsc (fun a o e hf=>?_) (Le.refl _) fun a hf=>(R.there I.rsc hf).no',
  I.step0.trans st fun a ha=>.inr (hW a ha).2.1,I.fpG,I.frs.step st fun o9 o9 o9 o9 h1 h2=>absurd h2 h1⟩
 ·obtain ⟨⟨v,hv⟩,h2⟩:=I.cel x c h
  exact ⟨⟨v,IsCell.of_step st hv (nC x c h)⟩,h2⟩
 ·obtain ⟨v,h1,h2⟩:=I.vals x d h
  exact ⟨v,h1.of_step st nL nC,h2⟩
 ·obtain ⟨ad,h1,h2⟩:=I.owns
  refine ⟨ad,fun x ds h=>?_,h2⟩
  obtain ⟨a1,a2,a3,a4⟩:=h1 x ds h
  refine ⟨a1.of_step st nL nC,a2.of_step st fun q=>?_,a3,a4⟩
  obtain ⟨_,o,vs,k,ho,_,hd,_⟩:=a2
  obtain ⟨vs',z⟩:=(hW _ q).2.2 o ho; rw [hd] at z; (first | exact dNS z | exact dSN z | (obtain rfl:=Option.some.inj z) | cases z)
 ·obtain ⟨o',e',q⟩:=st.keep a o e
  rcases q (fun z=>(hW a z).1 hf) with rfl | ⟨c,_⟩
  ·exact e'
  ·obtain ⟨_,o₂,e₂,nn⟩:=R.there I.rsc hf
   rw [e] at e₂; (first | (obtain rfl:=Option.some.inj e₂) | cases e₂); exact absurd c nn
noncomputable def XW (R:Rsc) (h₀:Heap) (S:R.σ) (Φ:Fz) (s:Shared):Addr→Prop:=fun a=>¬ R.fp S a∧h₀.get? a = none∧Φ a = none∧∀ o,s.heap.get? a = some o→∃ vs,o.data = .fields vs
inductive TbAt (R:Rsc) (h₀:Heap) (Φ:Fz) (S:R.σ) (s:Shared) (ea:Addr) (vs:Array Value):Prop
 | mk (T:Addr) (oT:Obj) (ts:Array Value) (h1:vs[1]? = some (.ref T)) (h2:T≠ea) (h3:Φ T = none) (h4:¬ R.fp S T) (h5:h₀.get? T = none) (h6:s.heap.get? T = some oT) (h7:oT.data = .fields ts) (h8:3 < ts.size)
inductive ExcSt (R:Rsc) (h₀:Heap) (tr:Bool) (Φ:Fz) (S:R.σ) (s:Shared) (ea:Addr) (cls:Value) (ds:List PyData):Prop
 | mk (noΦ:Φ ea = none) (noW:¬ R.fp S ea) (no0:h₀.get? ea = none) (oe:Obj) (vs:Array Value) (t:Addr) (he:s.heap.get? ea = some oe) (hc:oe.cls = cls) (hd:oe.data = .fields vs) (h0:vs[0]? = some (.ref t)) (hsz:1 < vs.size) (hr:RepP Φ (.tuple ds) (.ref t))
  (alt:(tr = false∧vs[1]? = some .none)∨TbAt R h₀ Φ S s ea vs)
noncomputable def frameAddrs (fs:List Env):List Addr:=fs.filterMap (·.frame)
theorem funFrames_of {K:Kx} {h b:Heap} {fs:List Env}:∀ {Φ:Fz} {s:Shared},FrsOk K fs Φ s→s.heap = h→(∀ a∈frameAddrs fs,b.get? a = none)→h.FunFrames b fs:=by
 induction fs with
 | nil =>
  rintro o9 o9 o9 o9 o9
  exact trivial
 | cons e fs ih =>
  rintro Φ s hf hh hb
  obtain ⟨h1,L,o,h2,h3,h4,h5,h6⟩:=hf e (.head _)
  refine ⟨h1,⟨L,o,h2,hb L (by simp [frameAddrs,h2]),hh ▸ h5,?_⟩,ih (fun e' he'=>hf e' (.tail _ he')) hh fun a ha=>hb a ?_⟩
  ·obtain ⟨_,es,ep,q⟩:=h6; intro vs z; rw [q] at z; (first | exact dNS z | exact dSN z | (obtain rfl:=Option.some.inj z) | cases z)
  ·unfold frameAddrs at ha ⊢; rw [List.filterMap_cons]; cases e.frame with
   | none=>exact ha
   | some x=>exact List.mem_cons_of_mem _ ha
theorem station (hfz:∀ a o,Φ a = some o→s.heap.get? a = some o) {fs:List Env} {p:List Addr} {h':Heap} (hfs:FrsOk K fs Φ s) (hst:(hideAll s.heap (p ++ frameAddrs fs)).StaysIn h') (hup:s.heap.UpToSlots h') (hp:∀ a∈p,Φ a = none) (hpe:∀ a∈p,∀ o,s.heap.get? a = some o→(∃ vs,o.data = .fields vs)∧∃ o',h'.get? a = some o') :
  Step (fun a=>a∈p) Φ s Φ { s with heap:=h' }:=by
 have frm:∀ a∈frameAddrs fs,Φ a = none∧∃ o,s.heap.get? a = some o∧FrO o:=fun a ha=>by
  unfold frameAddrs at ha
  obtain ⟨e,he,hf⟩:=List.mem_filterMap.mp ha
  obtain ⟨_,L,o,h2,_,h4,h5,h6⟩:=hfs e he
  rw [hf] at h2; (first | exact dNS h2 | exact dSN h2 | (obtain rfl:=Option.some.inj h2) | cases h2)
  exact ⟨h4,o,h5,h6⟩
 have other:∀ a o,s.heap.get? a = some o→a∉p→a∉frameAddrs fs→h'.get? a = some o:=fun a o e h1 h2=>hst a o (hideAll_get _ e (by simp [h1,h2]))
 have slots:∀ a o,s.heap.get? a = some o→FrO o→∃ sl,h'.get? a = some { o with slots:=sl }:=fun a o e f=>hup a o e fun vs q=>by obtain ⟨_,es,ep,z⟩:=f; rw [z] at q; (first | exact dNS q | exact dSN q | (obtain rfl:=Option.some.inj q) | cases q)
 refine ⟨rfl,rfl,fun a o e=>?_,Le.refl _,fun o9 e n=>absurd e n,fun a o e=>?_,fun a o e f=>?_⟩
 ·by_cases h1:a∈p
  ·obtain ⟨o',z⟩:=(hpe a h1 o e).2
   exact ⟨o',z,fun q=>absurd h1 q⟩
  ·by_cases h2:a∈frameAddrs fs
   ·obtain ⟨_,o₂,e₂,f₂⟩:=frm a h2
    rw [e] at e₂; (first | exact dNS e₂ | exact dSN e₂ | (obtain rfl:=Option.some.inj e₂) | cases e₂)
    obtain ⟨sl,z⟩:=slots a o e f₂
    exact ⟨_,z,fun o9=>.inr ⟨f₂.1,sl,rfl⟩⟩
   ·exact ⟨o,other a o e h1 h2,fun o9=>.inl rfl⟩
 ·refine other a o ?_ (fun q=>by rw [hp a q] at e; (first | exact dNS e | exact dSN e | (obtain rfl:=Option.some.inj e) | cases e)) (fun q=>by rw [(frm a q).1] at e; (first | exact dNS e | exact dSN e | (obtain rfl:=Option.some.inj e) | cases e))
  exact hfz a o e
 ·obtain ⟨sl,z⟩:=slots a o e f
  exact ⟨_,z,f.1,f.2⟩
theorem Step.upd {p:Addr} {f:Obj→Obj} {o:Obj} {vs:Array Value} (hfz:∀ a o,Φ a = some o→s.heap.get? a = some o) (hΦ:Φ p = none) (ho:s.heap.get? p = some o) (hd:o.data = .fields vs) (hnf:(f o).isFreed = false) :
  Step (fun a=>a = p) Φ s Φ { s with heap:=s.heap.update p f }:=by
 have other:∀ b,b≠p→(s.heap.update p f).get? b = s.heap.get? b:=fun b hb=>Heap.get?_update_other _ _ (Ne.symm hb)
 have self:(s.heap.update p f).get? p = some (f o):=Heap.get?_update_self _ ho hnf
 refine ⟨rfl,rfl,fun a o' e=>?_,Le.refl _,fun o9 e n=>absurd e n,fun a o' e=>?_,fun a o' e fr=>?_⟩
 ·by_cases q:a = p
  ·subst q; exact ⟨_,self,fun z=>absurd rfl z⟩
  ·exact ⟨o',(other a q).trans e,fun o9=>.inl rfl⟩
 ·have q:a≠p:=fun q=>by rw [q,hΦ] at e; (first | exact dNS e | exact dSN e | (obtain rfl:=Option.some.inj e) | cases e)
  exact (other a q).trans (hfz a o' e)
 ·have q:a≠p:=fun q=>by rw [q,ho] at e; (first | (obtain rfl:=Option.some.inj e) | cases e); obtain ⟨_,_,_,z⟩:=fr; rw [hd] at z; (first | exact dNS z | exact dSN z | (obtain rfl:=Option.some.inj z) | cases z)
  exact ⟨o',(other a q).trans e,fr⟩
theorem exc_note {A:Around} {E:Value→Shared→Prop} {h₀:Heap} {tr:Bool} {outer:List Env} {L ea:Addr} {cls:Value} {ds:List PyData} {Q:Unit→Shared→Prop} (hfr:A.frames = some (env :: outer)) (hf:env.frame = some L) (hfs:FrsOk K (env :: outer) Φ s)
  (hfz:∀ a o,Φ a = some o→s.heap.get? a = some o) (hle:∀ a o,h₀.get? a = some o→∃ o',s.heap.get? a = some o') (hfp:∀ a,R.fp S a→∃ o,s.heap.get? a = some o) (X:ExcSt R h₀ tr Φ S s ea cls ds)
  (h:∀ h',Step (XW R h₀ S Φ s) Φ s Φ { s with heap:=h' }→ExcSt R h₀ true Φ S { s with heap:=h' } ea cls ds→Q () { s with heap:=h' }):wpAny K.M A (noteFrame (.ref ea) env) Q E s:=by
 obtain ⟨noΦ,noW,no0,oe,vs,t,he,hc,hd,h0,hsz,hr,alt⟩:=X
 have xea:∀ s₁:Shared,s₁.heap.get? ea = some oe→XW R h₀ S Φ s₁ ea:=fun s₁ e=>⟨noW,no0,noΦ,fun o z=>by rw [e] at z; (first | (obtain rfl:=Option.some.inj z) | cases z); exact ⟨_,hd⟩⟩
 have entry:∀ (h₁:Heap) (head:Value) (hn:Bool),h₁.get? ea = some oe→Step (XW R h₀ S Φ s) Φ s Φ { s with heap:=h₁ } →
   wpAny K.M A (do let a ← frameOf env; let pl ← entryPlaceOf L hn; let b ← EntryCells.newEntry head a .none (rawInt L) .none pl; setField (.ref ea) 1 b) Q E { s with heap:=h₁ }:=fun h₁ head hn he₁ st₁=>by
  have hfs₁:FrsOk K (env :: outer) Φ { s with heap:=h₁ }:=hfs.step st₁ fun o9 o9 o9 o9 h1 h2=>absurd h2 h1
  generalize hs₁:({ s with heap:=h₁ }:Shared) = s₁ at hfs₁ st₁ ⊢
  replace he₁:s₁.heap.get? ea = some oe:=by subst hs₁; exact he₁
  have kb:(hideAll s₁.heap ([ea] ++ frameAddrs (env :: outer))).StaysIn s₁.heap:=fun b o e=>of_hideAll _ e
  have ff:s₁.heap.FunFrames (hideAll s₁.heap ([ea] ++ frameAddrs (env :: outer))) (env :: outer):=funFrames_of hfs₁ rfl fun a ha=>hideAll_none _ (List.mem_append_right _ ha)
  refine wpAny_entryW hfr ff hf he₁ kb (hideAll_none _ (by simp)) hd hsz h0 fun h' hp0=>?_
  obtain ⟨k1,k2,k3,k4⟩:=hp0
  obtain ⟨oe',vs',T,oT,ts,q1,⟨q2,q3⟩,q4,q5,q6,q7,q8,q9,q10⟩:=k3
  have st₂:Step (fun a=>a∈[ea]) Φ s₁ Φ { s₁ with heap:=h' }:=station st₁.froz hfs₁ k1 k4 (fun a ha=>by simp at ha; subst ha; exact noΦ) fun a ha o e=>by
   simp at ha; subst ha
   rw [he₁] at e; (first | exact dNS e | exact dSN e | (obtain rfl:=Option.some.inj e) | cases e)
   exact ⟨⟨_,hd⟩,_,q1⟩
  have stA:Step (XW R h₀ S Φ s) Φ s Φ { s₁ with heap:=h' }:=st₁.trans st₂ fun a ha=>by simp at ha; subst ha; exact .inl (xea s he)
  have hTn:s₁.heap.get? T = none:=by
   cases q:s₁.heap.get? T with
   | none=>rfl
   | some o =>
    exfalso
    by_cases z:T∈frameAddrs (env :: outer)
    ·unfold frameAddrs at z
     obtain ⟨e,he',hfe⟩:=List.mem_filterMap.mp z
     obtain ⟨_,L',o',h2,_,_,h5,h6⟩:=hfs₁ e he'
     rw [hfe] at h2; (first | exact dNS h2 | exact dSN h2 | (obtain rfl:=Option.some.inj h2) | cases h2)
     obtain ⟨o₂,e₂,f₂⟩:=st₂.fr T o' h5 h6
     rw [q8] at e₂; (first | exact dNS e₂ | exact dSN e₂ | (obtain rfl:=Option.some.inj e₂) | cases e₂)
     obtain ⟨_,_,_,z⟩:=f₂; rw [q9] at z; (first | exact dNS z | exact dSN z | (obtain rfl:=Option.some.inj z) | cases z)
    ·rw [hideAll_get _ q (by simp [q7,z])] at q6; cases q6
  have hTs:s.heap.get? T = none:=by
   cases q:s.heap.get? T with
   | none=>rfl
   | some o=>obtain ⟨o',e',_⟩:=st₁.keep T o q; rw [hTn] at e'; (first | exact dNS e' | exact dSN e' | (obtain rfl:=Option.some.inj e') | cases e')
  have hfpT:¬ R.fp S T:=fun q=>by obtain ⟨o,e⟩:=hfp T q; rw [hTs] at e; (first | exact dNS e | exact dSN e | (obtain rfl:=Option.some.inj e) | cases e)
  have h0T:h₀.get? T = none:=by
   cases q:h₀.get? T with
   | none=>rfl
   | some o=>obtain ⟨o',e'⟩:=hle T o q; rw [hTs] at e'; (first | exact dNS e' | exact dSN e' | (obtain rfl:=Option.some.inj e') | cases e')
  have hΦT:Φ T = none:=by
   cases q:Φ T with
   | none=>rfl
   | some o=>rw [hfz T o q] at hTs; (first | exact dNS hTs | exact dSN hTs | (obtain rfl:=Option.some.inj hTs) | cases hTs)
  subst hs₁
  exact h h' stA ⟨noΦ,noW,no0,oe',vs',t,q1,q2.trans hc,q4,q3,(Array.getElem?_eq_some_iff.mp q5).1,hr,.inr ⟨T,oT,ts,q5,q7,hΦT,hfpT,h0T,q8,q9,(Array.getElem?_eq_some_iff.mp q10).1⟩⟩
 unfold noteFrame
 simp only [hf]
 rcases alt with ⟨_,h1⟩ | ⟨T,oT,ts,h1,hTe,hΦT,hfpT,h0T,hT,hdT,hsz3⟩
 ·refine wpAny_bind (wpAny_field he hd h1 ?_)
  rw [if_neg (by decide)]
  exact entry s.heap _ _ he (.refl hfz)
 ·refine wpAny_bind (wpAny_field he hd h1 ?_)
  rw [if_pos (show (Value.ref T != Value.none) = true from by simp)]
  refine wpAny_bind (wpAny_field hT hdT (Array.getElem?_eq_getElem hsz3) ?_)
  by_cases hfl:(ts[3] == rawInt L) = true
  ·rw [if_pos hfl]
   exact wpAny_pure (h s.heap (.refl hfz) ⟨noΦ,noW,no0,oe,vs,t,he,hc,hd,h0,hsz,hr,.inr ⟨T,oT,ts,h1,hTe,hΦT,hfpT,h0T,hT,hdT,hsz3⟩⟩)
  ·rw [if_neg hfl]
   refine wpAny_bind (wpAny_setField hT hdT hsz3 ?_)
   have st:=Step.upd (f:=Obj.mapFields (·.setIfInBounds 3 Value.none)) hfz hΦT hT hdT (Obj.isFreed_of_fields (Obj.data_mapFields hdT _))
   refine entry _ _ _ ((Heap.get?_update_other _ _ hTe).trans he) (st.weaken fun a ha=>?_)
   subst ha
   exact ⟨hfpT,h0T,hΦT,fun o z=>by rw [hT] at z; (first | (obtain rfl:=Option.some.inj z) | cases z); exact ⟨_,hdT⟩⟩
theorem exc_flight {A:Around} {E:Value→Shared→Prop} {h₀:Heap} {ea:Addr} {cls:Value} {ds:List PyData} {fr:Option Addr} {Q:Unit→Shared→Prop}
  (hfz:∀ a o,Φ a = some o→s.heap.get? a = some o) (X:ExcSt R h₀ true Φ S s ea cls ds)
  (h:∀ h',Step (XW R h₀ S Φ s) Φ s Φ { s with heap:=h' }→ExcSt R h₀ true Φ S { s with heap:=h' } ea cls ds→Q () { s with heap:=h' }):wpAny K.M A (setFlight (.ref ea) fr) Q E s:=by
 obtain ⟨noΦ,noW,no0,oe,vs,t,he,hc,hd,h0,hsz,hr,alt⟩:=X
 rcases alt with ⟨z,_⟩ | ⟨T,oT,ts,h1,hTe,hΦT,hfpT,h0T,hT,hdT,hsz3⟩
 ·cases z
 unfold setFlight
 refine wpAny_bind (wpAny_field he hd h1 ?_)
 rw [if_pos (show (Value.ref T != Value.none) = true from by simp)]
 refine wpAny_setField hT hdT hsz3 ?_
 have hd₃:=Obj.data_mapFields hdT (·.setIfInBounds 3 (fr.elim Value.none fun f=>rawInt f))
 have st:=Step.upd (f:=Obj.mapFields (·.setIfInBounds 3 (fr.elim Value.none fun f=>rawInt f))) hfz hΦT hT hdT (Obj.isFreed_of_fields hd₃)
 refine h _ (st.weaken fun a ha=>?_) ⟨noΦ,noW,no0,oe,vs,t,(Heap.get?_update_other _ _ hTe).trans he,hc,hd,h0,hsz,hr,.inr ⟨T,_,_,h1,hTe,hΦT,hfpT,h0T,Heap.get?_update_self _ hT (Obj.isFreed_of_fields hd₃),hd₃,by simpa using hsz3⟩⟩
 subst ha
 exact ⟨hfpT,h0T,hΦT,fun o z=>by rw [hT] at z; (first | (obtain rfl:=Option.some.inj z) | cases z); exact ⟨_,hdT⟩⟩
theorem exc_tb {A:Around} {E:Value→Shared→Prop} {h₀:Heap} {ea:Addr} {cls:Value} {ds:List PyData} {Q:Value→Shared→Prop} (X:ExcSt R h₀ true Φ S s ea cls ds) (h:∀ T,Q (.ref T) s):wpAny K.M A (field (.ref ea) 1) Q E s:=by
 obtain ⟨noΦ,noW,no0,oe,vs,t,he,hc,hd,h0,hsz,hr,alt⟩:=X
 rcases alt with ⟨z,_⟩ | ⟨T,oT,ts,h1,hTe,hΦT,hfpT,h0T,hT,hdT,hsz3⟩
 ·cases z
 exact wpAny_field he hd h1 (h T)
end
noncomputable def OwnA (K:Kx) (env:Env) (ρ:Rho) (s:Shared) (a:Addr):Prop:=∃ x es,ρ.lookup x = some (.own es)∧VarIs K env s.heap x (.ref a)
noncomputable def FW (K:Kx) (R:Rsc) (env:Env) (ρ:Rho) (S:R.σ) (s:Shared):Addr→Prop:=fun a=>a = env.locals∨(∃ x,env.cells.lookup x = some a)∨R.fp S a∨OwnA K env ρ s a
structure AfterS (K:Kx) (R:Rsc) (G:Ent) (sc:Scope) (env:Env) (ρ:Rho) (S:R.σ) (Φ:Fz) (s:Shared) (ρ':Rho) (S':R.σ) (Φ':Fz) (s':Shared):Prop where
 inv:Inv K R G sc env ρ' S' Φ' s'
 step:Step (FW K R env ρ S s) Φ s Φ' s'
 own:∀ a,OwnA K env ρ' s' a→OwnA K env ρ s a∨s.heap.get? a = none
 fp:FpLe R S s S'
section
variable {K:Kx} {R:Rsc} {G:Ent} {sc:Scope} {env:Env} {ρ ρ₁ ρ₂:Rho} {S S₁ S₂:R.σ} {Φ Φ₁ Φ₂:Fz} {s s₁ s₂:Shared}
theorem none_step {W:Addr→Prop} {a:Addr} (st:Step W Φ s Φ₁ s₁) (h:s₁.heap.get? a = none):s.heap.get? a = none:=heap_none_of_step st h
theorem AfterS.refl (I:Inv K R G sc env ρ S Φ s):AfterS K R G sc env ρ S Φ s ρ S Φ s:=⟨I,.refl I.froz,fun o9 h=>.inl h,.refl⟩
theorem AfterS.trans (x:AfterS K R G sc env ρ S Φ s ρ₁ S₁ Φ₁ s₁) (y:AfterS K R G sc env ρ₁ S₁ Φ₁ s₁ ρ₂ S₂ Φ₂ s₂):AfterS K R G sc env ρ S Φ s ρ₂ S₂ Φ₂ s₂ where
 inv:=y.inv
 step:=x.step.trans y.step fun a h=>by
  rcases h with h | h | h | h
  ·exact .inl (.inl h)
  ·exact .inl (.inr (.inl h))
  ·rcases x.fp a h with h | h
   ·exact .inl (.inr (.inr (.inl h)))
   ·exact .inr h
  ·rcases x.own a h with h | h
   ·exact .inl (.inr (.inr (.inr h)))
   ·exact .inr h
 own:=fun a h=>by
  rcases y.own a h with h | h
  ·exact x.own a h
  ·exact .inr (none_step x.step h)
 fp:=x.fp.trans x.step y.fp
theorem AfterS.sub (x:AfterS K R G sc env ρ S Φ s ρ₁ S₁ Φ₁ s₁) (h:Sub ρ₂ ρ₁):AfterS K R G sc env ρ S Φ s ρ₂ S₁ Φ₁ s₁ :=
 ⟨x.inv.sub h,x.step,fun a hp0=>by obtain ⟨y,es,h1,h2⟩:=hp0; exact x.own a ⟨y,es,h _ _ h1,h2⟩,x.fp⟩
theorem After.stmt (I:Inv K R G sc env ρ S Φ s) (x:After K R G sc env ρ S Φ s S₁ Φ₁ s₁):AfterS K R G sc env ρ S Φ s ρ S₁ Φ₁ s₁ :=
 ⟨x.inv,x.step.weaken fun a h=>.inr (.inr (.inl h)),fun a ⟨y,es,h1,h2⟩=>.inl ⟨y,es,h1,by
  obtain ⟨ad,q,_⟩:=I.owns
  obtain ⟨a1,_⟩:=q y es h1
  have:=VarIs.inj h2 (a1.of_step x.step I.nsW fun z c hc=>(I.cel z c hc).nfp)
  (first | (obtain rfl:=Value.ref.inj this) | cases this); exact a1⟩,x.fp⟩
theorem Stored.afterVal {x:Str} {v:Value} {d:D} (X:Stored K R G sc env x v S Φ s s₁) (I:Inv K R G sc env ρ S Φ s) (hr:Rep Φ d v):AfterS K R G sc env ρ S Φ s ((x,.val d) :: ρ) S Φ s₁ :=
 ⟨X.val I hr,X.step.weaken fun a h=>by
  rcases h with h | h
  ·exact .inl h
  ·exact .inr (.inl ⟨x,h⟩),fun a hp0=>by
   obtain ⟨y,es,h1,h2⟩:=hp0
   have q:y≠x:=fun q=>by subst q; rw [lookup_cons_self] at h1; (first | exact dNS h1 | exact dSN h1 | (obtain rfl:=Option.some.inj h1) | cases h1)
   rw [lookup_cons_ne q] at h1
   obtain ⟨ad,z,_⟩:=I.owns
   obtain ⟨a1,_⟩:=z y es h1
   have:=VarIs.inj h2 (X.other _ _ q a1)
   (first | (obtain rfl:=Value.ref.inj this) | cases this); exact .inl ⟨y,es,h1,a1⟩,.refl⟩
theorem Stored.afterOwn {x:Str} {a:Addr} {ds:List PyData} (X:Stored K R G sc env x (.ref a) S Φ s s₁) (I:Inv K R G sc env ρ S Φ s) (ho:Owns Φ s.heap a ds) (hfp:¬ R.fp S a) (hG:G.s.heap.get? a = none)
  (hap:∀ b,OwnA K env ρ s b→b≠a):Inv K R G sc env ((x,.own ds) :: ρ) S Φ s₁∧Step (FW K R env ρ S s) Φ s Φ s₁∧∀ b,OwnA K env ((x,.own ds) :: ρ) s₁ b→b = a∨OwnA K env ρ s b:=by
 refine ⟨X.own I ho hfp hG fun y es b h1 h2=>hap b ⟨y,es,h1,h2⟩,X.step.weaken fun a h=>?_,fun b ⟨y,es,h1,h2⟩=>?_⟩
 ·rcases h with h | h
  ·exact .inl h
  ·exact .inr (.inl ⟨x,h⟩)
 ·by_cases q:y = x
  ·subst q
   have:=VarIs.inj h2 X.self
   (first | (obtain rfl:=Value.ref.inj this) | cases this); exact .inl rfl
  ·rw [lookup_cons_ne q] at h1
   obtain ⟨ad,z,_⟩:=I.owns
   obtain ⟨a1,_⟩:=z y es h1
   have:=VarIs.inj h2 (X.other _ _ q a1)
   (first | (obtain rfl:=Value.ref.inj this) | cases this); exact .inr ⟨y,es,h1,a1⟩
end
set_option genInjectivity false in
inductive Fl where
 | next
 | brk
 | cont
 | ret (d:D)
 | retF (ds:List PyData)
 | exc (cls:Value) (ds:List PyData)
noncomputable def FlRep (R:Rsc) (S:R.σ) (G:Ent) (Φ:Fz) (s:Shared):Flow→Fl→Prop
 | .next,.next=>True
 | .brk,.brk=>True
 | .cont,.cont=>True
 | .ret v,.ret d=>Rep Φ d v
 | .ret v,.retF ds=>∃ a,v = .ref a∧Owns Φ s.heap a ds∧¬ R.fp S a∧G.s.heap.get? a = none
 | _,_=>False
structure FnG (G:Ent) (env:Env):Prop where
 mine:∀ x,G.mine x = true
 fs:∃ outer,G.fs = env :: outer
 frame:env.frame = some env.locals
inductive XP (K:Kx) (R:Rsc) (G:Ent) (sc:Scope) (env:Env) (ρ:Rho) (S:R.σ) (Φ:Fz) (s:Shared) (trd:Bool) (Q:Fl→Rho→R.σ→Prop) (e:Value) (s':Shared):Prop
 | mk (ea:Addr) (Φ':Fz) (ρ':Rho) (S':R.σ) (cls:Value) (ds:List PyData) (tr:Bool) (h:e = .ref ea) (a:AfterS K R G sc env ρ S Φ s ρ' S' Φ' s') (t:trd = true→tr = true) (x:ExcSt R s.heap tr Φ' S' s' ea cls ds) (q:Q (.exc cls ds) ρ' S')
section
variable {K:Kx} {R:Rsc} {G:Ent} {sc:Scope} {env:Env} {ρ ρ₁ ρ₂:Rho} {S S₁ S₂:R.σ} {Φ Φ₁ Φ₂:Fz} {s s₁ s₂:Shared} {Q Q':Fl→Rho→R.σ→Prop} {trd:Bool} {e:Value}
theorem ExcSt.older {h₀ h₁:Heap} {tr:Bool} {ea:Addr} {cls:Value} {ds:List PyData} (x:ExcSt R h₁ tr Φ S s ea cls ds) (h:∀ a,h₁.get? a = none→h₀.get? a = none):ExcSt R h₀ tr Φ S s ea cls ds:=by
 obtain ⟨a1,a2,a3,oe,vs,t,b1,b2,b3,b4,b5,b6,b7⟩:=x
 refine ⟨a1,a2,h _ a3,oe,vs,t,b1,b2,b3,b4,b5,b6,b7.imp id ?_⟩
 rintro ⟨T,oT,ts,c1,c2,c3,c4,c5,c6,c7,c8⟩
 exact ⟨T,oT,ts,c1,c2,c3,c4,h _ c5,c6,c7,c8⟩
theorem XP.trans (x:AfterS K R G sc env ρ S Φ s ρ₁ S₁ Φ₁ s₁) (y:XP K R G sc env ρ₁ S₁ Φ₁ s₁ trd Q e s₂):XP K R G sc env ρ S Φ s trd Q e s₂:=by
 obtain ⟨ea,Φ',ρ',S',cls,ds,tr,e1,y1,e2,e3,e4⟩:=y
 exact ⟨ea,Φ',ρ',S',cls,ds,tr,e1,x.trans y1,e2,e3.older fun a ha=>none_step x.step ha,e4⟩
theorem XP.mono (y:XP K R G sc env ρ S Φ s trd Q e s₂) (h:∀ cls ds ρ' S',Q (.exc cls ds) ρ' S'→Q' (.exc cls ds) ρ' S'):XP K R G sc env ρ S Φ s trd Q' e s₂:=by
 obtain ⟨ea,Φ',ρ',S',cls,ds,tr,e1,y1,e2,e3,e4⟩:=y
 exact ⟨ea,Φ',ρ',S',cls,ds,tr,e1,y1,e2,e3,h _ _ _ _ e4⟩
theorem XP.any (y:XP K R G sc env ρ S Φ s trd Q e s₂):XP K R G sc env ρ S Φ s false Q e s₂:=by
 obtain ⟨ea,Φ',ρ',S',cls,ds,tr,e1,y1,e2,e3,e4⟩:=y
 exact ⟨ea,Φ',ρ',S',cls,ds,tr,e1,y1,fun z=>(by cases z),e3,e4⟩
theorem AfterS.priv (I:Inv K R G sc env ρ S Φ s) (x:AfterS K R G sc env ρ S Φ s ρ₁ S₁ Φ₁ s₁) (st:Step (XW R s.heap S₁ Φ₁ s₁) Φ₁ s₁ Φ₁ s₂):AfterS K R G sc env ρ S Φ s ρ₁ S₁ Φ₁ s₂:=by
 have hW:∀ a,XW R s.heap S₁ Φ₁ s₁ a→¬ R.fp S₁ a∧G.s.heap.get? a = none∧∀ o,s₁.heap.get? a = some o→∃ vs,o.data = .fields vs:=fun a h=>⟨h.1,I.gone h.2.1,h.2.2.2⟩
 have nL:¬ XW R s.heap S₁ Φ₁ s₁ env.locals:=fun q=>by
  obtain ⟨m,om,es,ep,hom,hdm,_⟩:=x.inv.ns
  obtain ⟨vs,z⟩:=q.2.2.2 om hom; rw [hdm] at z; (first | exact dNS z | exact dSN z | (obtain rfl:=Option.some.inj z) | cases z)
 have nC:∀ x' c,env.cells.lookup x' = some c→¬ XW R s.heap S₁ Φ₁ s₁ c:=fun x' c h q=>by
  obtain ⟨⟨v,oc,hoc,hd⟩,_⟩:=x.inv.cel x' c h
  obtain ⟨vs,z⟩:=q.2.2.2 oc hoc; rw [hd] at z; (first | exact dNS z | exact dSN z | (obtain rfl:=Option.some.inj z) | cases z)
 refine ⟨x.inv.priv st hW,x.step.trans st fun a h=>.inr h.2.1,fun a ⟨y,es,h1,h2⟩=>x.own a ⟨y,es,h1,?_⟩,x.fp⟩
 obtain ⟨ad,q,_⟩:=x.inv.owns
 obtain ⟨a1,_⟩:=q y es h1
 have:=VarIs.inj h2 (a1.of_step st nL nC)
 (first | (obtain rfl:=Value.ref.inj this) | cases this); exact a1
theorem XP.note {A:Around} {n:Nat} {P:Value→Shared→Prop} (ok:OkayG n A G) (hm:FnG G env) (I:Inv K R G sc env ρ S Φ s) (y:XP K R G sc env ρ S Φ s trd Q e s₁) (h:∀ s₂,XP K R G sc env ρ S Φ s true Q e s₂→P e s₂) {E:Value→Shared→Prop} :
  wpAny K.M A (noteFrame e env) (fun o9 s₂=>P e s₂) E s₁:=by
 obtain ⟨ea,Φ',ρ',S',cls,ds,tr,e1,y1,e2,e3,e4⟩:=y
 subst e1
 obtain ⟨outer,ho⟩:=hm.fs
 refine exc_note (by rw [ok.fr,ho]) hm.frame (ho ▸ y1.inv.frs) y1.inv.froz (fun a o e=>let ⟨o',e',_⟩:=y1.step.keep a o e; ⟨o',e'⟩) (fun a hf=>let ⟨_,o,e,_⟩:=R.there y1.inv.rsc hf; ⟨o,e⟩) e3 fun h' st X=>h _ ⟨ea,Φ',ρ',S',cls,ds,true,rfl,y1.priv I st,fun o9=>rfl,X,e4⟩
theorem XP.flight {A:Around} {fr:Option Addr} {P:Value→Shared→Prop} (I:Inv K R G sc env ρ S Φ s) (y:XP K R G sc env ρ S Φ s true Q e s₁) (h:∀ s₂,XP K R G sc env ρ S Φ s true Q e s₂→P e s₂) {E:Value→Shared→Prop} :
  wpAny K.M A (setFlight e fr) (fun o9 s₂=>P e s₂) E s₁:=by
 obtain ⟨ea,Φ',ρ',S',cls,ds,tr,e1,y1,e2,e3,e4⟩:=y
 subst e1
 have:=e2 rfl; subst this
 exact exc_flight y1.inv.froz e3 fun h' st X=>h _ ⟨ea,Φ',ρ',S',cls,ds,true,rfl,y1.priv I st,fun o9=>rfl,X,e4⟩
theorem XP.noted {A:Around} {n:Nat} {P:Value→Shared→Prop} (ok:OkayG n A G) (hm:FnG G env) (I:Inv K R G sc env ρ S Φ s) (y:XP K R G sc env ρ S Φ s trd Q e s₁) (h:∀ s₂,XP K R G sc env ρ S Φ s true Q e s₂→P e s₂):notedBy K.M A env P e s₁ :=
 y.note ok hm I h
theorem XP.back {A:Around} {P:Value→Shared→Prop} (I:Inv K R G sc env ρ S Φ s) (y:XP K R G sc env ρ S Φ s true Q e s₁) (h:∀ s₂,XP K R G sc env ρ S Φ s true Q e s₂→P e s₂):cameBackBy K.M A env P e s₁:=by
 have y':=y
 obtain ⟨ea,Φ',ρ',S',cls,ds,tr,e1,y1,e2,e3,e4⟩:=y
 subst e1
 have:=e2 rfl; subst this
 refine wpAny_bind (exc_tb e3 fun T=>?_)
 rw [if_neg (by simp)]
 exact y'.flight I h
end
section
variable (K:Kx) (R:Rsc) (G:Ent) (sc:Scope) (env:Env) (ρ:Rho) (S:R.σ) (Φ:Fz) (s:Shared)
inductive PS (Q:Fl→Rho→R.σ→Prop) (f:Flow) (s':Shared):Prop
 | mk (Φ':Fz) (ρ':Rho) (S':R.σ) (fl:Fl) (a:AfterS K R G sc env ρ S Φ s ρ' S' Φ' s') (r:FlRep R S' G Φ' s' f fl) (q:Q fl ρ' S')
end
section
variable (n:Nat) (K:Kx) (R:Rsc) (sc:Scope) (ρ:Rho) (S:R.σ)
noncomputable def WS (sts:List Stmt) (Q:Fl→Rho→R.σ→Prop):Prop :=
 ∀ A G env Φ s,OkayG n A G→FnG G env→Inv K R G sc env ρ S Φ s →
  wpAny K.M A (execs sts env) (PS K R G sc env ρ S Φ s Q) (XP K R G sc env ρ S Φ s false Q) s
noncomputable def WX (st:Stmt) (Q:Fl→Rho→R.σ→Prop):Prop :=
 ∀ A G env Φ s,OkayG n A G→FnG G env→Inv K R G sc env ρ S Φ s →
  wpAny K.M A (exec st env) (PS K R G sc env ρ S Φ s Q) (XP K R G sc env ρ S Φ s false Q) s
end
section
variable {n:Nat} {K:Kx} {R:Rsc} {sc:Scope} {ρ:Rho} {S:R.σ}
theorem ws_nil {Q:Fl→Rho→R.σ→Prop} (q:Q .next ρ S):WS n K R sc ρ S [] Q :=
 fun A G env Φ s ok hm I=>wpAny_execs_nil ⟨Φ,ρ,S,.next,.refl I,trivial,q⟩
noncomputable def Seq (n:Nat) (K:Kx) (R:Rsc) (sc:Scope) (rest:List Stmt) (Q:Fl→Rho→R.σ→Prop):Fl→Rho→R.σ→Prop
 | .next,ρ',S'=>WS n K R sc ρ' S' rest Q
 | fl,ρ',S'=>Q fl ρ' S'
theorem ws_cons {st:Stmt} {rest:List Stmt} {Q:Fl→Rho→R.σ→Prop} (h:WX n K R sc ρ S st (Seq n K R sc rest Q)):WS n K R sc ρ S (st :: rest) Q :=
 fun A G env Φ s ok hm I=>wpAny_execs_cons (wpAny_mono (h A G env Φ s ok hm I) (fun f s₁ hp0=>by
  obtain ⟨Φ₁,ρ₁,S₁,fl,x,r,q⟩:=hp0
  have out:f≠.next→PS K R G sc env ρ S Φ s Q f s₁:=fun hf=>by
   cases fl with
   | next=>cases f <;> first | exact False.elim r | exact absurd rfl hf
   | brk=>exact ⟨Φ₁,ρ₁,S₁,_,x,r,q⟩
   | cont=>exact ⟨Φ₁,ρ₁,S₁,_,x,r,q⟩
   | ret d=>exact ⟨Φ₁,ρ₁,S₁,_,x,r,q⟩
   | retF ds=>exact ⟨Φ₁,ρ₁,S₁,_,x,r,q⟩
   | exc _ _=>cases f <;> exact False.elim r
  cases f with
  | next =>
   cases fl with
   | next=>exact wpAny_mono (q A G env Φ₁ s₁ ok hm x.inv) (fun f s₂ hp0=>by obtain ⟨Φ₂,ρ₂,S₂,fl,y,r,q⟩:=hp0; exact ⟨Φ₂,ρ₂,S₂,fl,x.trans y,r,q⟩) fun o9 o9 z=>z.trans x
   | _=>exact False.elim r
  | brk=>exact out nofun
  | cont=>exact out nofun
  | ret v=>exact out nofun) fun o9 o9 x=>x.mono fun o9 o9 o9 o9 q=>q)
theorem ws_sub {sts:List Stmt} {ρ₁:Rho} {Q:Fl→Rho→R.σ→Prop} (hs:Sub ρ₁ ρ) (h:WS n K R sc ρ₁ S sts Q):WS n K R sc ρ S sts Q :=
 fun A G env Φ s ok hm I=>wpAny_mono (h A G env Φ s ok hm (I.sub hs)) (fun o9 o9 hp0=>by obtain ⟨Φ',ρ',S',fl,x,r,q⟩:=hp0; exact ⟨Φ',ρ',S',fl,((AfterS.refl I).sub hs).trans x,r,q⟩) fun o9 o9 z=>z.trans ((AfterS.refl I).sub hs)
theorem Inv.freezeVar {G:Ent} {env:Env} {Φ:Fz} {s:Shared} {x:Str} {ds:List PyData} (I:Inv K R G sc env ρ S Φ s) (hx:ρ.lookup x = some (.own ds)) :
  ∃ Φ',AfterS K R G sc env ρ S Φ s ((x,.val (.lst ds)) :: ρ) S Φ' s:=by
 obtain ⟨ad,h1,h2⟩:=I.owns
 obtain ⟨a1,⟨f,o,vs,m,ho,c,d,r⟩,a3,a4⟩:=h1 x ds hx
 have le:Le Φ (Φ.add (ad x) o):=Fz.le_add f
 have other:∀ b,b≠ad x→(Φ.add (ad x) o) b = Φ b:=fun b hb=>by simp [Fz.add,hb]
 have fz:∀ b o',(Φ.add (ad x) o) b = some o'→s.heap.get? b = some o':=fun b o' e=>by
  by_cases q:b = ad x
  ·subst q; rw [Fz.add_self] at e; (first | (obtain rfl:=Option.some.inj e) | cases e); exact ho
  ·rw [other b q] at e; exact I.froz b o' e
 refine ⟨Φ.add (ad x) o,⟨fun b o' e=>le _ _ (I.base b o' e),fz,I.scp,I.kind,I.globs,I.blts,I.ns,?_,I.nsW,I.nsG,fun y c' hc=>?_,I.celG,I.celA,I.celD,fun y d' hy=>?_,?_,?_,?_,I.fpG,fun e he=>?_⟩,?_,?_,.refl⟩
 ·rw [other _ (Ne.symm (I.locals_ne ho (by first | exact nDF d | exact nSF d | exact nSD d | exact nDS d | (rw [d]; intro o9 o9 q; cases q))))]; exact I.nsΦ
 ·obtain ⟨q1,q2,q3⟩:=I.cel y c' hc
  exact ⟨q1,by rw [other _ (I.cells_ne ho (by first | exact nCF d | exact nCD d | exact nCS d | (rw [d]; intro o9 q; cases q)) y c' hc)]; exact q2,q3⟩
 ·by_cases q:y = x
  ·subst q; rw [lookup_cons_self] at hy; (first | exact dNS hy | exact dSN hy | (obtain rfl:=Option.some.inj hy) | cases hy)
   refine ⟨_,a1,?_⟩
   exact ⟨_,o,vs,m,rfl,Fz.add_self ..,c,d,r.mono le⟩
  ·rw [lookup_cons_ne q] at hy
   obtain ⟨v,q1,q2⟩:=I.vals y d' hy
   exact ⟨v,q1,q2.mono le⟩
 ·have key:∀ y ds',List.lookup y ((x,Slot.val (.lst ds)) :: ρ) = some (.own ds')→y≠x∧List.lookup y ρ = some (.own ds'):=fun y ds' hy=>by
   by_cases q:y = x
   ·subst q; rw [lookup_cons_self] at hy; (first | exact dNS hy | exact dSN hy | (obtain rfl:=Option.some.inj hy) | cases hy)
   ·rw [lookup_cons_ne q] at hy; exact ⟨q,hy⟩
  refine ⟨ad,fun y ds' hy=>?_,fun y z ds₁ ds₂ hy hz hne=>h2 y z ds₁ ds₂ (key y ds₁ hy).2 (key z ds₂ hz).2 hne⟩
  obtain ⟨q,hy'⟩:=key y ds' hy
  obtain ⟨b1,⟨f',o',vs',m',ho',c',d',r'⟩,b3,b4⟩:=h1 y ds' hy'
  exact ⟨b1,⟨by rw [other _ (h2 y x ds' ds hy' hx q)]; exact f',o',vs',m',ho',c',d',r'.mono le⟩,b3,b4⟩
 ·exact R.stable I.rsc (fun o9 o9 e o9=>e) le fun b hb=>by
   rw [other b (fun q=>a3 (q ▸ hb))]; exact (R.there I.rsc hb).no'
 ·refine ⟨I.step0.gens,I.step0.os,I.step0.keep,I.step0.le.trans le,fun b e nb=>?_,fz,I.step0.fr⟩
  by_cases q:b = ad x
  ·subst q; exact .inl a4
  ·rw [other b q] at nb; exact I.step0.new b e nb
 ·obtain ⟨q1,L,oL,q2,q3,q4,q5,q6⟩:=I.frs e he
  refine ⟨q1,L,oL,q2,q3,?_,q5,q6⟩
  rw [other L fun z=>?_]; exact q4
  subst z; rw [ho] at q5; (first | (obtain rfl:=Option.some.inj q5) | cases q5); obtain ⟨_,_,_,z⟩:=q6; rw [d] at z; (first | exact dNS z | exact dSN z | (obtain rfl:=Option.some.inj z) | cases z)
 ·refine ⟨rfl,rfl,fun b o' e=>⟨o',e,fun o9=>.inl rfl⟩,le,fun b e nb=>?_,fz,fun o9 o e f=>⟨o,e,f⟩⟩
  by_cases q:b = ad x
  ·subst q; exact .inr (.inr (.inr (.inr ⟨x,ds,hx,a1⟩)))
  ·rw [other b q] at nb; exact absurd e nb
 ·rintro b ⟨y,es,hy,hv⟩
  have q:y≠x:=fun q=>by subst q; rw [lookup_cons_self] at hy; (first | exact dNS hy | exact dSN hy | (obtain rfl:=Option.some.inj hy) | cases hy)
  rw [lookup_cons_ne q] at hy
  exact .inl ⟨y,es,hy,hv⟩
end
section
variable {n:Nat} {K:Kx} {R:Rsc} {sc:Scope} {ρ:Rho} {S:R.σ}
theorem inter_false {G:Ent} {env:Env} {Φ:Fz} {s:Shared} (I:Inv K R G sc env ρ S Φ s):interactive env = false:=by
 unfold interactive; rw [I.scp,I.kind]; rfl
theorem wx_assign {x:Str} {p pos:Pos} {e:Expr} {Q:Fl→Rho→R.σ→Prop} (h:WE n K R sc ρ S e fun d S₁=>Q .next ((x,.val d) :: ρ) S₁) (hx:isVar sc x = true:=by rfl)
  (hs:∀ env,swapsWith e (some (.Name x p)) pos.line env = pure false:=by intro o9; rfl):WX n K R sc ρ S (.Assign [.Name x p] e pos) Q :=
 fun A G env Φ s ok hm I=>wpAny_Assign_Name (wpAny_mono (h A G env Φ s ok I) (fun v s₁ ⟨Φ₁,S₁,d,y,r,q⟩ =>
  stored y.inv (isVar_or hx) (hm.mine x) fun s₂ X=>⟨Φ₁,_,S₁,.next,(After.stmt I y).trans (X.afterVal y.inv r),trivial,q⟩) fun o9 o9 x=>x.elim) (hs env)
theorem own_of_new {G:Ent} {env:Env} {Φ Φ₁:Fz} {s s₁ s₂:Shared} {S₁:R.σ} {x:Str} {a:Addr} {ds:List PyData} (I:Inv K R G sc env ρ S Φ s) (y:AfterS K R G sc env ρ S Φ s ρ S₁ Φ₁ s₁) (o:Owns Φ₁ s₁.heap a ds) (f:¬ R.fp S₁ a) (hn:s.heap.get? a = none)
  (hown:∀ b,OwnA K env ρ s₁ b→OwnA K env ρ s b)
  (X:Stored K R G sc env x (.ref a) S₁ Φ₁ s₁ s₂):AfterS K R G sc env ρ S Φ s ((x,.own ds) :: ρ) S₁ Φ₁ s₂:=by
 have hap:∀ b,OwnA K env ρ s₁ b→b≠a:=fun b hb=>by
  obtain ⟨z,es,h1,h2⟩:=hown b hb
  obtain ⟨ad,q,_⟩:=I.owns
  obtain ⟨a1,⟨_,ob,_,_,hob,_⟩,_⟩:=q z es h1
  have:=VarIs.inj h2 a1
  (first | (obtain rfl:=Value.ref.inj this) | cases this)
  intro e; rw [e,hn] at hob; (first | exact dNS hob | exact dSN hob | (obtain rfl:=Option.some.inj hob) | cases hob)
 obtain ⟨i,st,ow⟩:=X.afterOwn y.inv o f (I.gone hn) hap
 have st':Step (FW K R env ρ S s) Φ s Φ₁ s₂:=y.step.trans st fun b hb=>by
  rcases hb with h | h | h | h
  ·exact .inl (.inl h)
  ·exact .inl (.inr (.inl h))
  ·rcases y.fp b h with h | h
   ·exact .inl (.inr (.inr (.inl h)))
   ·exact .inr h
  ·rcases y.own b h with h | h
   ·exact .inl (.inr (.inr (.inr h)))
   ·exact .inr h
 refine ⟨i,st',fun b hb=>?_,y.fp⟩
 rcases ow b hb with rfl | h
 ·exact .inr hn
 ·exact .inl (hown b h)
theorem own_stay {G:Ent} {env:Env} {Φ Φ₁:Fz} {s s₁:Shared} {S₁:R.σ} (I:Inv K R G sc env ρ S Φ s) (y:After K R G sc env ρ S Φ s S₁ Φ₁ s₁):∀ b,OwnA K env ρ s₁ b→OwnA K env ρ s b:=fun b hp0=>by
 obtain ⟨z,es,h1,h2⟩:=hp0
 obtain ⟨ad,q,_⟩:=I.owns
 obtain ⟨a1,_⟩:=q z es h1
 have:=VarIs.inj h2 (a1.of_step y.step I.nsW fun z c hc=>(I.cel z c hc).nfp)
 (first | (obtain rfl:=Value.ref.inj this) | cases this); exact ⟨z,es,h1,a1⟩
theorem wx_assignF {x:Str} {p pos:Pos} {e:Expr} {Q:Fl→Rho→R.σ→Prop} (h:WF n K R sc ρ S e fun ds S₁=>Q .next ((x,.own ds) :: ρ) S₁) (hx:isVar sc x = true:=by rfl)
  (hs:∀ env,env.scope = sc→swapsWith e (some (.Name x p)) pos.line env = pure false:=by intro o9 o9; rfl):WX n K R sc ρ S (.Assign [.Name x p] e pos) Q :=
 fun A G env Φ s ok hm I=>wpAny_Assign_Name (wpAny_mono (h A G env Φ s ok I) (fun v s₁ hp0=>by
  obtain ⟨Φ₁,S₁,ds,a,y,e,o,f,hn,q⟩:=hp0
  subst e
  exact stored y.inv (isVar_or hx) (hm.mine x) fun s₂ X=>⟨Φ₁,_,S₁,.next,own_of_new I (After.stmt I y) o f hn (own_stay I y) X,trivial,q⟩) fun o9 o9 x=>x.elim) (hs env I.scp)
theorem wx_if {t:Expr} {body orelse:List Stmt} {pos:Pos} {Q:Fl→Rho→R.σ→Prop} (h:WT n K R sc ρ S t fun b S₁=>if b then WS n K R sc ρ S₁ body Q else WS n K R sc ρ S₁ orelse Q):WX n K R sc ρ S (.If t body orelse pos) Q :=
 fun A G env Φ s ok hm I=>wpAny_If (wpAny_mono (h A G env Φ s ok I) (fun b s₁ hp0=>by
  obtain ⟨Φ₁,S₁,y,q⟩:=hp0
  cases b with
  | true=>exact wpAny_mono ((show WS n K R sc ρ S₁ body Q by simpa using q) A G env Φ₁ s₁ ok hm y.inv) (fun f s₂ hp0=>by obtain ⟨Φ₂,ρ₂,S₂,fl,z,r,q⟩:=hp0; exact ⟨Φ₂,ρ₂,S₂,fl,(After.stmt I y).trans z,r,q⟩) fun o9 o9 z=>z.trans (After.stmt I y)
  | false=>exact wpAny_mono ((show WS n K R sc ρ S₁ orelse Q by simpa using q) A G env Φ₁ s₁ ok hm y.inv) (fun f s₂ hp0=>by obtain ⟨Φ₂,ρ₂,S₂,fl,z,r,q⟩:=hp0; exact ⟨Φ₂,ρ₂,S₂,fl,(After.stmt I y).trans z,r,q⟩) fun o9 o9 z=>z.trans (After.stmt I y)) fun o9 o9 x=>x.elim)
theorem wx_return {e:Expr} {pos:Pos} {Q:Fl→Rho→R.σ→Prop} (h:WE n K R sc ρ S e fun d S₁=>Q (.ret d) ρ S₁):WX n K R sc ρ S (.Return (some e) pos) Q :=
 fun A G env Φ s ok hm I=>wpAny_Return_some (wpAny_mono (h A G env Φ s ok I) (fun v s₁ hp0=>by obtain ⟨Φ₁,S₁,d,y,r,q⟩:=hp0; exact ⟨Φ₁,ρ,S₁,.ret d,After.stmt I y,r,q⟩) fun o9 o9 x=>x.elim)
theorem wx_returnF {e:Expr} {pos:Pos} {Q:Fl→Rho→R.σ→Prop} (h:WF n K R sc ρ S e fun ds S₁=>Q (.retF ds) ρ S₁):WX n K R sc ρ S (.Return (some e) pos) Q :=
 fun A G env Φ s ok hm I=>wpAny_Return_some (wpAny_mono (h A G env Φ s ok I) (fun v s₁ hp0=>by obtain ⟨Φ₁,S₁,ds,a,y,e,o,f,hn,q⟩:=hp0; exact ⟨Φ₁,ρ,S₁,.retF ds,After.stmt I y,⟨a,e,o,f,I.gone hn⟩,q⟩) fun o9 o9 x=>x.elim)
theorem wx_break {pos:Pos} {Q:Fl→Rho→R.σ→Prop} (q:Q .brk ρ S):WX n K R sc ρ S (.Break pos) Q:=fun A G env Φ s ok hm I=>wpAny_Break ⟨Φ,ρ,S,.brk,.refl I,trivial,q⟩
theorem wx_continue {pos:Pos} {Q:Fl→Rho→R.σ→Prop} (q:Q .cont ρ S):WX n K R sc ρ S (.Continue pos) Q:=fun A G env Φ s ok hm I=>wpAny_Continue ⟨Φ,ρ,S,.cont,.refl I,trivial,q⟩
theorem wx_expr {e:Expr} {pos:Pos} {Q:Fl→Rho→R.σ→Prop} (h:WE n K R sc ρ S e fun d S₁=>d = .none∧Q .next ρ S₁) (hs:∀ env,swapsWith e none pos.line env = pure false:=by intro o9; rfl):WX n K R sc ρ S (.Expr e pos) Q :=
 fun A G env Φ s ok hm I=>wpAny_Expr (wpAny_mono (h A G env Φ s ok I) (fun v s₁ hp0=>by
  obtain ⟨Φ₁,S₁,d,y,r,e,q⟩:=hp0
  subst e
  (first | subst r | (cases (show _ = _ from r)))
  exact ⟨Φ₁,ρ,S₁,.next,After.stmt I y,trivial,q⟩) fun o9 o9 x=>x.elim) (inter_false I) (hs env)
theorem AfterS.ext {G:Ent} {env:Env} {ρ₁:Rho} {S₁:R.σ} {Φ Φ₁:Fz} {s s₁:Shared} {h':Heap} {tk:Nat} {p:Addr} {o:Obj} {vs:Array Value} (x:AfterS K R G sc env ρ S Φ s ρ₁ S₁ Φ₁ s₁) (hk:∀ b o,b≠p→s₁.heap.get? b = some o→h'.get? b = some o)
  (hp:s₁.heap.get? p = some o) (hd:o.data = .fields vs) (hΦ:Φ₁ p = none) (hfp:¬ R.fp S₁ p) (hG:G.s.heap.get? p = none) (hN:s.heap.get? p = none) :
  AfterS K R G sc env ρ S Φ s ρ₁ S₁ Φ₁ { s₁ with heap:=h',toks:=tk }:=by
 have hL:=x.inv.locals_ne hp (by first | exact nDF hd | exact nSF hd | exact nSD hd | exact nDS hd | (rw [hd]; intro o9 o9 q; cases q))
 have hC:=x.inv.cells_ne hp (by first | exact nCF hd | exact nCD hd | exact nCS hd | (rw [hd]; intro o9 q; cases q))
 have hO:=x.inv.own_ne hp (by first | exact nDF hd | exact nSF hd | exact nSD hd | exact nDS hd | (rw [hd]; intro o9 o9 q; cases q))
 have nf:∀ o',s₁.heap.get? p = some o'→¬ FrO o':=fun o' e q=>by rw [hp] at e; (first | (obtain rfl:=Option.some.inj e) | cases e); obtain ⟨_,_,_,z⟩:=q; rw [hd] at z; (first | exact dNS z | exact dSN z | (obtain rfl:=Option.some.inj z) | cases z)
 have I':=x.inv.ext (tk:=tk) hk hΦ hfp hG nf hL hC hO
 refine ⟨I',⟨x.step.gens,x.step.os,fun b ob e=>?_,x.step.le,x.step.new,I'.froz,fun b ob e f=>let ⟨o₁,e₁,f₁⟩:=x.step.fr b ob e f; ⟨o₁,hk b o₁ (fun z=>by subst z; exact nf o₁ e₁ f₁) e₁,f₁⟩⟩,fun b ⟨y,es,h1,h2⟩=>x.own b ⟨y,es,h1,?_⟩,x.fp⟩
 ·obtain ⟨o',e',q⟩:=x.step.keep b ob e
  exact ⟨o',hk b o' (fun z=>by rw [z,hN] at e; (first | exact dNS e | exact dSN e | (obtain rfl:=Option.some.inj e) | cases e)) e',q⟩
 ·obtain ⟨ad,q,_⟩:=x.inv.owns
  obtain ⟨a1,_⟩:=q y es h1
  have a1':VarIs K env h' y (.ref (ad y)):=by
   rcases a1 with ⟨k,m,hn,hm⟩ | ⟨k,c,h1c,oc,hoc,hdc⟩ | h
   ·exact .inl ⟨k,m,hn.at' fun o e=>hk _ o (Ne.symm hL) e,hm⟩
   ·exact .inr (.inl ⟨k,c,h1c,oc,hk _ oc (hC _ _ h1c) hoc,hdc⟩)
   ·exact .inr (.inr h)
  have:=VarIs.inj h2 a1'
  (first | (obtain rfl:=Value.ref.inj this) | cases this); exact a1
noncomputable def AsgOk (xs:List Str) (f:Rho→Rho):Prop:=∀ ρ y es,(f ρ).lookup y = some (.own es)→y∉xs∧ρ.lookup y = some (.own es)
theorem asgok_name {x:Str} {d:D}:AsgOk [x] (fun ρ=>(x,.val d) :: ρ):=fun ρ y es hy=>by
 by_cases q:y = x
 ·subst q; rw [lookup_cons_self] at hy; (first | exact dNS hy | exact dSN hy | (obtain rfl:=Option.some.inj hy) | cases hy)
 ·rw [lookup_cons_ne q] at hy; exact ⟨by simpa using q,hy⟩
theorem asgok_pair {x y:Str} {d e:D}:AsgOk [x,y] (fun ρ=>(y,.val e) :: (x,.val d) :: ρ):=fun ρ z es hz=>by
 by_cases q:z = y
 ·subst q; rw [lookup_cons_self] at hz; (first | exact dNS hz | exact dSN hz | (obtain rfl:=Option.some.inj hz) | cases hz)
 ·rw [lookup_cons_ne q] at hz
  by_cases q':z = x
  ·subst q'; rw [lookup_cons_self] at hz; (first | exact dNS hz | exact dSN hz | (obtain rfl:=Option.some.inj hz) | cases hz)
  ·rw [lookup_cons_ne q'] at hz; exact ⟨by simp [q,q'],hz⟩
theorem asg_after {G:Ent} {env:Env} {Φ:Fz} {s s₁:Shared} {xs:List Str} {f:Rho→Rho} (I:Inv K R G sc env ρ S Φ s) (I₁:Inv K R G sc env (f ρ) S Φ s₁) (st:Step (Places env xs) Φ s Φ s₁) (ot:∀ y u,y∉xs→VarIs K env s.heap y u→VarIs K env s₁.heap y u) (ha:AsgOk xs f) :
  AfterS K R G sc env ρ S Φ s (f ρ) S Φ s₁ :=
 ⟨I₁,st.weaken fun a h=>by
  rcases h with h | ⟨x,_,h⟩
  ·exact .inl h
  ·exact .inr (.inl ⟨x,h⟩),fun a hp0=>by
   obtain ⟨y,es,h1,h2⟩:=hp0
   obtain ⟨q1,q2⟩:=ha ρ y es h1
   obtain ⟨ad,z,_⟩:=I.owns
   obtain ⟨a1,_⟩:=z y es q2
   have:=VarIs.inj h2 (ot _ _ q1 a1)
   (first | (obtain rfl:=Value.ref.inj this) | cases this); exact .inl ⟨y,es,q2,a1⟩,.refl⟩
noncomputable def Turn (go:Rho→R.σ→Prop) (Q:Fl→Rho→R.σ→Prop):Fl→Rho→R.σ→Prop
 | .next,ρ',S'=>go ρ' S'
 | .cont,ρ',S'=>go ρ' S'
 | .brk,ρ',S'=>Q .next ρ' S'
 | fl,ρ',S'=>Q fl ρ' S'
end
section
variable {K:Kx} {R:Rsc} {G:Ent} {sc:Scope} {env:Env} {ρ:Rho} {S:R.σ} {Φ:Fz} {s:Shared}
theorem AfterS.privF {W:Addr→Prop} {ρ₁:Rho} {S₁:R.σ} {Φ₁ Φ₂:Fz} {s₁ s₂:Shared} (x:AfterS K R G sc env ρ S Φ s ρ₁ S₁ Φ₁ s₁) (st:Step W Φ₁ s₁ Φ₂ s₂)
  (hW:∀ a,W a→¬ R.fp S₁ a∧G.s.heap.get? a = none∧s.heap.get? a = none∧∀ o,s₁.heap.get? a = some o→∃ vs,o.data = .fields vs):AfterS K R G sc env ρ S Φ s ρ₁ S₁ Φ₂ s₂:=by
 obtain ⟨nL,nC,_⟩:=priv_places x.inv fun a h=>(hW a h).2.2.2
 refine ⟨x.inv.privF st fun a h=>⟨(hW a h).1,(hW a h).2.1,(hW a h).2.2.2⟩,x.step.trans st fun a h=>.inr (hW a h).2.2.1,fun a h=>x.own a ?_,x.fp⟩
 obtain ⟨y,es,h1,h2⟩:=h
 obtain ⟨ad,q,_⟩:=x.inv.owns
 obtain ⟨a1,_⟩:=q y es h1
 have:=VarIs.inj h2 (a1.of_step st nL nC)
 (first | (obtain rfl:=Value.ref.inj this) | cases this); exact ⟨y,es,h1,a1⟩
theorem Inv.notFW {p:Addr} (I:Inv K R G sc env ρ S Φ s) (hf:¬ R.fp S p) (h:∃ o vs,s.heap.get? p = some o∧o.data = .fields vs):¬ FW K R env ρ S s p:=by
 obtain ⟨o,vs,ho,hd⟩:=h
 rintro (q | ⟨y,q⟩ | q | ⟨y,es,q1,q2⟩)
 ·exact I.locals_ne ho (by first | exact nDF hd | exact nSF hd | exact nSD hd | exact nDS hd | (rw [hd]; intro o9 o9 z; cases z)) q
 ·exact I.cells_ne ho (by first | exact nCF hd | exact nCD hd | exact nCS hd | (rw [hd]; intro o9 z; cases z)) y _ q rfl
 ·exact hf q
 ·exact I.own_ne ho (by first | exact nDF hd | exact nSF hd | exact nSD hd | exact nDS hd | (rw [hd]; intro o9 o9 z; cases z)) y es p q1 q2 rfl
theorem Inv.notPlaces {p:Addr} {xs:List Str} (I:Inv K R G sc env ρ S Φ s) (h:∃ o vs,s.heap.get? p = some o∧o.data = .fields vs):¬ Places env xs p:=by
 obtain ⟨o,vs,ho,hd⟩:=h
 rintro (q | ⟨y,_,q⟩)
 ·exact I.locals_ne ho (by first | exact nDF hd | exact nSF hd | exact nSD hd | exact nDS hd | (rw [hd]; intro o9 o9 z; cases z)) q
 ·exact I.cells_ne ho (by first | exact nCF hd | exact nCD hd | exact nCS hd | (rw [hd]; intro o9 z; cases z)) y _ q rfl
theorem Step.fields {W:Addr→Prop} {Φ':Fz} {s':Shared} {p:Addr} (st:Step W Φ s Φ' s') (h:∃ o vs,s.heap.get? p = some o∧o.data = .fields vs) (hW:¬ W p):∃ o vs,s'.heap.get? p = some o∧o.data = .fields vs:=by
 obtain ⟨o,vs,ho,hd⟩:=h
 obtain ⟨o',e',q⟩:=st.keep p o ho
 rcases q hW with rfl | ⟨_,sl,rfl⟩
 ·exact ⟨_,vs,e',hd⟩
 ·exact ⟨_,vs,e',hd⟩
end
section
variable {n:Nat} {K:Kx} {R:Rsc} {sc:Scope} {ρ:Rho} {S:R.σ} {α:Type}
inductive Loose (P:Rho→Prop) (ρ:Rho):Prop
 | mk (ρ':Rho) (s:Sub ρ' ρ) (p:P ρ')
inductive Bound (n:Nat) (K:Kx) (R:Rsc) (sc:Scope) (target:Expr) (d:D) (ρ:Rho) (S:R.σ) (body:List Stmt) (Q:Fl→Rho→R.σ→Prop):Prop
 | mk (xs:List Str) (f:Rho→Rho) (a:Asg n K R sc target d xs f) (o:AsgOk xs f) (w:WS n K R sc (f ρ) S body Q)
noncomputable def PinsQ (R:Rsc) (k:Sk) (S:R.σ) (J:List α→Rho→R.σ→Prop):Prop:=∀ b,k = .pin b→∃ o,Pin R S b o∧∀ pre ρ₂ S₂,J pre ρ₂ S₂→Pin R S₂ b o
inductive ForQ (n:Nat) (K:Kx) (R:Rsc) (sc:Scope) (ρ:Rho) (target:Expr) (body:List Stmt) (k:Sk) (Q:Fl→Rho→R.σ→Prop) (α:Type) (ds:List D) (S₁:R.σ):Prop
 | mk (l:List α) (enc:α→D) (J:List α→Rho→R.σ→Prop) (e:ds = l.map enc) (i:Loose (fun ρ=>J [] ρ S₁) ρ) (pin:PinsQ R k S₁ J)
  (turn:∀ pre x post ρ₁ S₁,l = pre ++ x :: post→J pre ρ₁ S₁→Bound n K R sc target (enc x) ρ₁ S₁ body (Turn (fun ρ₂ S₂=>Loose (fun ρ=>J (pre ++ [x]) ρ S₂) ρ₂) Q))
  (fin:∀ ρ₁ S₁,J l ρ₁ S₁→Q .next ρ₁ S₁)
section
variable (K:Kx) (R:Rsc) (G:Ent) (sc:Scope) (env:Env) (ρ:Rho) (S:R.σ) (Φ:Fz) (s:Shared) (l:List α) (J:List α→Rho→R.σ→Prop) (pr:Addr→Prop) (Φ₁:Fz) (St:Nat→Heap→Prop)
inductive FI (k:Nat) (s':Shared):Prop
 | mk (pre post:List α) (Φ':Fz) (ρ':Rho) (S':R.σ) (hl:l = pre ++ post) (hk:k = post.length) (x:AfterS K R G sc env ρ S Φ s ρ' S' Φ' s') (j:J pre ρ' S') (st:St pre.length s'.heap) (le:Le Φ₁ Φ') (no:∀ p,pr p→Φ' p = none∧¬ R.fp S' p)
end
theorem flow_cases {G:Ent} {Φ:Fz} {s:Shared} {P:Flow→Prop} {T:Rho→R.σ→Prop} {Q:Fl→Rho→R.σ→Prop} {f:Flow} {fl:Fl} (r:FlRep R S G Φ s f fl) (q:Turn T Q fl ρ S)
  (go:T ρ S→P .next∧P .cont) (brk:Q .next ρ S→P .brk) (ret:∀ v fl,FlRep R S G Φ s (.ret v) fl→Q fl ρ S→P (.ret v)):P f:=by
 cases f with
 | next=>cases fl with
  | next=>exact (go q).1
  | _=>exact r.elim
 | cont=>cases fl with
  | cont=>exact (go q).2
  | _=>exact r.elim
 | brk=>cases fl with
  | brk=>exact brk q
  | _=>exact r.elim
 | ret w=>cases fl with
  | ret d=>exact ret w _ r q
  | retF ds=>exact ret w _ r q
  | _=>exact r.elim
set_option tactic.hygienic true in
theorem wx_forE {target iter:Expr} {body:List Stmt} {pos:Pos} {Q:Fl→Rho→R.σ→Prop} (α:Type) (k:Sk) (hk:k≠.any)
  (hsrc:WIE n K R sc ρ S iter k target (ForQ n K R sc ρ target body k Q α)) (hs:∀ env x,foldedSetIterable iter env x = pure x:=by intro o9 o9; rfl) (hpos:0 < n:=by first | exact Nat.succ_pos _ | omega):WX n K R sc ρ S (.For target iter body [] pos) Q :=
 fun A G env Φ s ok hm I=>by
  refine wpAny_For (wpAny_mono (hsrc A G env Φ s ok I) (fun x s₁ h₁=>wpAny_mono h₁ (fun it s₂ p=>?_) fun o9 o9 x=>x.elim) fun o9 o9 x=>x.elim) (hs env)
  cases p with
  | mk Φ₂ S₂ ds I₁ pr fp St x₂ e hp src hst hfp q =>
  cases q with
  | mk l enc J e1 hi hpin turn fin =>
  cases hi with
  | mk ρ₀ hsub hJ =>
  subst e e1
  refine codeAny_forLoop_any (FI K R G sc env ρ S Φ s l J pr Φ₂ St) ?_ l.length (.mk [] l Φ₂ ρ₀ S₂ rfl rfl ((After.stmt I x₂).sub hsub) hJ hst (Le.refl _) fun p h=>(hp p h).2)
  intro k₁ s₃ h
  cases h with
  | mk pre post Φ₃ ρ₃ S₃ hl hk₁ x₃ hJ₃ hst₃ le₃ no₃ =>
  cases post with
  | nil =>
   rw [List.append_nil] at hl
   subst hl
   refine src.done A (ok.hd hpos) s₃ (by rw [List.length_map]; exact hst₃) _ _ fun h' tk p hp' hkp=>?_
   obtain ⟨o,vs,ho,hd⟩:=src.kind _ _ p hst₃ hp'
   exact wpAny_execs_nil ⟨Φ₃,ρ₃,S₃,.next,x₃.ext (tk:=tk) hkp ho hd (no₃ p hp').1 (no₃ p hp').2 (I.gone (hp p hp').1) (hp p hp').1,trivial,fin _ _ hJ₃⟩
  | cons x post =>
   have hlt:pre.length < (l.map enc).length:=by rw [List.length_map,hl,List.length_append]; exact Nat.lt_add_of_pos_right (Nat.succ_pos _)
   refine wpAny_mono (Q:=fun r s₂=>∃ v,r = some v∧wpAny K.M A (letOwnedTupleGo target (.ref I₁) v) (fun o9 s'=>wpAny K.M A (assign target env v) _ _ s') _ s₂) (src.item A (ok.hd hpos) pre.length s₃ Φ₃ hlt hst₃ le₃ x₃.inv.froz (fun p h=>(no₃ p h).1) _ _ fun v d Φ₄ s₄ hd hr st₄ hst₄ no₄=>?_) (fun r s₂ h=>by obtain ⟨v,e,h⟩:=h; subst e; exact h) fun o9 o9 x=>x
   have x₄:=x₃.privF st₄ fun p h=>⟨(no₃ p h).2,I.gone (hp p h).1,(hp p h).1,fun o e=>by
    obtain ⟨o',vs,e',hd⟩:=src.kind _ _ p hst₃ h
    rw [e] at e'; (first | (obtain rfl:=Option.some.inj e') | cases e'); exact ⟨vs,hd⟩⟩
   have hdx:enc x = d:=by
    rw [hl,List.map_append,List.getElem?_append_right (by rw [List.length_map]; exact Nat.le_refl _),List.length_map,Nat.sub_self] at hd
    exact Option.some.inj hd
   subst hdx
   cases turn pre x post ρ₃ S₃ hl hJ₃ with
   | mk xs f ha hao hb =>
   refine ha A G env ρ₃ S₃ Φ₄ _ v ok (fun y o9=>hm.mine y) x₄.inv hr _ _ fun s₅ I₅ st₅ ot₅=>?_
   have x₅:=x₄.trans (asg_after x₄.inv I₅ st₅ ot₅ hao)
   have f₅:∀ p,pr p→∃ o vs,s₅.heap.get? p = some o∧o.data = .fields vs:=fun p h=>st₅.fields (src.kind _ _ p hst₄ h) (x₄.inv.notPlaces (src.kind _ _ p hst₄ h))
   refine wpAny_mono (hb A G env Φ₄ s₅ ok hm I₅) (fun fl s₆ p=>?_) fun o9 o9 z=>XP.noted (Q:=Q) ok hm I ((z.mono (Q':=Q) fun o9 o9 o9 o9 q=>q).trans x₅) fun o9 y=>y.back I fun o9 y=>y.any
   cases p with
   | mk Φ₆ ρ₆ S₆ flw x₆ r q =>
   have x₇:=x₅.trans x₆
   have go:Loose (fun ρ=>J (pre ++ [x]) ρ S₆) ρ₆→∃ m,m < k₁∧FI K R G sc env ρ S Φ s l J pr Φ₂ St m s₆:=fun h=>by
    cases h with
    | mk ρ₇ hs7 hJ7 =>
    refine ⟨post.length,by rw [hk₁]; exact Nat.lt_succ_self _,.mk (pre ++ [x]) post Φ₆ ρ₇ S₆ (by rw [hl,List.append_assoc]; rfl) rfl (x₇.sub hs7) hJ7 ?_ ((le₃.trans st₄.le).trans x₆.step.le) fun p h=>?_⟩
    ·rw [List.length_append]
     have st₆:=(st₅.weaken (W':=fun a=>Places env xs a∨FW K R env (f ρ₃) S₃ s₅ a) fun o9 h=>.inl h).trans x₆.step fun o9 h=>.inl (.inr h)
     refine src.stays hst₄ st₆ (le₃.trans st₄.le) x₄.inv.froz fun b hb'=>?_
     rcases hfp b hb' with h | h | ⟨q,_⟩ | ⟨q,op,hp⟩
     ·exact .inl fun z=>z.elim (x₄.inv.notPlaces (src.kind _ _ b hst₄ h)) (I₅.notFW (no₃ b h).2 (f₅ b h))
     ·exact .inr (.inl h)
     ·exact absurd q hk
     ·obtain ⟨oq,_,hq⟩:=hpin b q
      exact .inr (.inr ⟨oq,hq _ _ _ hJ₃ _ _ x₄.inv.rsc,hq _ _ _ hJ7 _ _ x₆.inv.rsc⟩)
    ·obtain ⟨o,vs,ho,hd⟩:=f₅ p h
     have nW:=I₅.notFW (no₃ p h).2 ⟨o,vs,ho,hd⟩
     exact ⟨x₆.step.noneΦ (no₄ p h) ho nW,x₆.fp.not (no₃ p h).2 ho⟩
   exact flow_cases (P:=fun fl=>match (motive:=Flow→Prop) fl with
      | .next | .cont=>∃ m,m < k₁∧FI K R G sc env ρ S Φ s l J pr Φ₂ St m s₆
      | .brk=>PS K R G sc env ρ S Φ s Q .next s₆
      | .ret v=>PS K R G sc env ρ S Φ s Q (.ret v) s₆) r q (fun h=>⟨go h,go h⟩) (fun q=>⟨Φ₆,ρ₆,S₆,.next,x₇,trivial,q⟩) fun v fl r q=>⟨Φ₆,ρ₆,S₆,fl,x₇,r,q⟩
theorem wx_forG {target iter:Expr} {body:List Stmt} {pos:Pos} {Q:Fl→Rho→R.σ→Prop} (α:Type) (k:Sk) (hk:k≠.any)
  (hsrc:WI n K R sc ρ S iter k (ForQ n K R sc ρ target body k Q α)) (hs:∀ env x,foldedSetIterable iter env x = pure x:=by intro o9 o9; rfl) (hpos:0 < n:=by first | exact Nat.succ_pos _ | omega):WX n K R sc ρ S (.For target iter body [] pos) Q:=wx_forE α k hk hsrc.e hs hpos
theorem WI.mono {e:Expr} {k:Sk} {Q Q':List D→R.σ→Prop} (h:WI n K R sc ρ S e k Q) (hq:∀ ds S',Q ds S'→Q' ds S'):WI n K R sc ρ S e k Q':=fun A G env Φ s ok I =>
 wpAny_mono (h A G env Φ s ok I) (fun x s₁ h₁=>wpAny_mono h₁ (fun it s₂ p=>by
  cases p with
  | mk Φ₂ S₂ ds I₁ fp St x₂ e a b c d q=>exact .mk Φ₂ S₂ ds I₁ fp St x₂ e a b c d (hq _ _ q)) fun o9 o9 x=>x) fun o9 o9 x=>x
inductive SrcQ (R:Rsc) (ρ:Rho) (k:Sk) (l:List α) (enc:α→D) (J:List α→Rho→R.σ→Prop) (ds:List D) (S₁:R.σ):Prop
 | mk (e:ds = l.map enc) (i:Loose (fun ρ=>J [] ρ S₁) ρ) (p:PinsQ R k S₁ J)
theorem wx_for {target iter:Expr} {body:List Stmt} {pos:Pos} {Q:Fl→Rho→R.σ→Prop} (l:List α) (enc:α→D) (J:List α→Rho→R.σ→Prop) (k:Sk) (hk:k≠.any)
  (hsrc:WI n K R sc ρ S iter k (SrcQ R ρ k l enc J))
  (turn:∀ pre x post ρ₁ S₁,l = pre ++ x :: post→J pre ρ₁ S₁→Bound n K R sc target (enc x) ρ₁ S₁ body (Turn (fun ρ₂ S₂=>Loose (fun ρ=>J (pre ++ [x]) ρ S₂) ρ₂) Q))
  (fin:∀ ρ₁ S₁,J l ρ₁ S₁→Q .next ρ₁ S₁) (hs:∀ env x,foldedSetIterable iter env x = pure x:=by intro o9 o9; rfl) (hpos:0 < n:=by first | exact Nat.succ_pos _ | omega):WX n K R sc ρ S (.For target iter body [] pos) Q :=
 wx_forG α k hk (hsrc.mono fun ds S₁ h=>by cases h with | mk h1 h2 h3=>exact .mk l enc J h1 h2 h3 turn fin) hs hpos
inductive WhI (K:Kx) (R:Rsc) (G:Ent) (sc:Scope) (env:Env) (ρ:Rho) (S:R.σ) (Φ:Fz) (s:Shared) (J:Nat→Rho→R.σ→Prop) (k:Nat) (s':Shared):Prop
 | mk (Φ':Fz) (ρ':Rho) (S':R.σ) (x:AfterS K R G sc env ρ S Φ s ρ' S' Φ' s') (j:J k ρ' S')
inductive Fewer (R:Rsc) (J:Nat→Rho→R.σ→Prop) (k:Nat) (ρ:Rho) (S:R.σ):Prop
 | mk (ρ':Rho) (k':Nat) (s:Sub ρ' ρ) (h:k' < k) (j:J k' ρ' S)
set_option tactic.hygienic true in
theorem wx_while {test:Expr} {body orelse:List Stmt} {pos:Pos} {Q:Fl→Rho→R.σ→Prop} (J:Nat→Rho→R.σ→Prop) (k₀:Nat) (init:Loose (fun ρ=>J k₀ ρ S) ρ)
  (turn:∀ k ρ₁ S₁,J k ρ₁ S₁→WT n K R sc ρ₁ S₁ test fun b S₂=>if b then WS n K R sc ρ₁ S₂ body (Turn (Fewer R J k) Q) else WS n K R sc ρ₁ S₂ orelse Q) :
  WX n K R sc ρ S (.While test body orelse pos) Q :=
 fun A G env Φ s ok hm I=>by
  cases init with
  | mk ρ₀ hs0 hJ0 =>
  refine wpAny_While (codeAny_whileLoop (WhI K R G sc env ρ S Φ s J) ?_ k₀ ⟨Φ,ρ₀,S,(AfterS.refl I).sub hs0,hJ0⟩)
  intro k s₁ h
  cases h with
  | mk Φ₁ ρ₁ S₁ x₁ hJ =>
  refine wpAny_mono (turn k ρ₁ S₁ hJ A G env Φ₁ s₁ ok x₁.inv) (fun b s₂ p=>?_) fun o9 o9 x=>x.elim
  cases p with
  | mk Φ₂ S₂ y q =>
  have x₂:=x₁.trans (After.stmt x₁.inv y)
  cases b with
  | true =>
   rw [if_pos rfl] at q
   refine wpAny_mono (q A G env Φ₂ s₂ ok hm y.inv) (fun fl s₃ p=>?_) fun o9 o9 z=>XP.noted (Q:=Q) ok hm I ((z.mono (Q':=Q) fun o9 o9 o9 o9 q=>q).trans x₂) fun o9 y=>y.back I fun o9 y=>y.any
   cases p with
   | mk Φ₃ ρ₃ S₃ flw x₃ r q =>
   have x₃':=x₂.trans x₃
   have go:Fewer R J k ρ₃ S₃→∃ m,m < k∧WhI K R G sc env ρ S Φ s J m s₃:=fun h=>by
    cases h with
    | mk ρ₄ k' h1 h2 h3=>exact ⟨k',h2,Φ₃,ρ₄,S₃,x₃'.sub h1,h3⟩
   exact flow_cases (P:=fun fl=>match (motive:=Flow→Prop) fl with
      | .next | .cont=>∃ m,m < k∧WhI K R G sc env ρ S Φ s J m s₃
      | .brk=>PS K R G sc env ρ S Φ s Q .next s₃
      | .ret v=>PS K R G sc env ρ S Φ s Q (.ret v) s₃) r q (fun h=>⟨go h,go h⟩) (fun q=>⟨Φ₃,ρ₃,S₃,.next,x₃',trivial,q⟩) fun v fl r q=>⟨Φ₃,ρ₃,S₃,fl,x₃',r,q⟩
  | false =>
   rw [if_neg Bool.false_ne_true] at q
   exact wpAny_mono (q A G env Φ₂ s₂ ok hm y.inv) (fun fl s₃ p=>by cases p with | mk Φ₃ ρ₃ S₃ flw x₃ r q=>exact ⟨Φ₃,ρ₃,S₃,flw,x₂.trans x₃,r,q⟩) fun o9 o9 z=>XP.noted (Q:=Q) ok hm I (z.trans x₂) fun o9 y=>y.back I fun o9 y=>y.any
end
section
variable {n:Nat} {K:Kx} {R:Rsc} {sc:Scope} {ρ:Rho} {S:R.σ}
theorem Inv.mutate {G:Ent} {env:Env} {Φ:Fz} {s:Shared} {x:Str} {ds ds':List PyData} {a:Addr} {h':Heap} {tk:Nat} {o':Obj} {vs':Array Value} {m':Nat} (I:Inv K R G sc env ρ S Φ s) (hx:ρ.lookup x = some (.own ds)) (hv:VarIs K env s.heap x (.ref a))
  (hk:∀ b o,b≠a→s.heap.get? b = some o→h'.get? b = some o) (ho:h'.get? a = some o') (hp:PL o') (hd:o'.data = .seq vs' m') (hr:Reps Φ ds' vs'.toList) :
  AfterS K R G sc env ρ S Φ s ((x,.own ds') :: ρ) S Φ { s with heap:=h',toks:=tk }:=by
 obtain ⟨ad,h1,h2⟩:=I.owns
 obtain ⟨a1,⟨f,o,vs,m,hoa,c,d,r⟩,a3,a4⟩:=h1 x ds hx
 have e:=VarIs.inj hv a1
 cases e
 have hL:=I.locals_ne hoa (by first | exact nDF d | exact nSF d | exact nSD d | exact nDS d | (rw [d]; intro o9 o9 q; cases q))
 have hC:=I.cells_ne hoa (by first | exact nCF d | exact nCD d | exact nCS d | (rw [d]; intro o9 q; cases q))
 have fz:∀ b o,Φ b = some o→h'.get? b = some o:=fun b o e=>hk b o (fun q=>by rw [q,f] at e; (first | exact dNS e | exact dSN e | (obtain rfl:=Option.some.inj e) | cases e)) (I.froz b o e)
 have fr:∀ b o,s.heap.get? b = some o→FrO o→h'.get? b = some o:=fun b o e q=>hk b o (fun z=>by subst z; rw [hoa] at e; (first | (obtain rfl:=Option.some.inj e) | cases e); obtain ⟨_,_,_,z⟩:=q; rw [d] at z; (first | exact dNS z | exact dSN z | (obtain rfl:=Option.some.inj z) | cases z)) e
 have hvar:∀ y v,VarIs K env s.heap y v→VarIs K env h' y v:=fun y v h=>by
  rcases h with ⟨k,m,hn,hm⟩ | ⟨k,c,q1,oc,hoc,hdc⟩ | h
  ·exact .inl ⟨k,m,hn.at' fun o e=>hk _ o (Ne.symm hL) e,hm⟩
  ·exact .inr (.inl ⟨k,c,q1,oc,hk _ oc (hC _ _ q1) hoc,hdc⟩)
  ·exact .inr (.inr h)
 have key:∀ y es,List.lookup y ((x,Slot.own ds') :: ρ) = some (.own es)→(y = x∧es = ds')∨(y≠x∧ρ.lookup y = some (.own es)):=fun y es hy=>by
  by_cases q:y = x
  ·subst q; rw [lookup_cons_self] at hy; (first | (obtain rfl:=Option.some.inj hy) | cases hy); exact .inl ⟨rfl,rfl⟩
  ·rw [lookup_cons_ne q] at hy; exact .inr ⟨q,hy⟩
 have keyO:∀ y es,List.lookup y ((x,Slot.own ds') :: ρ) = some (.own es)→∃ es',ρ.lookup y = some (.own es'):=fun y es hy=>by
  rcases key y es hy with ⟨q,_⟩ | ⟨_,q⟩
  ·exact ⟨ds,q ▸ hx⟩
  ·exact ⟨es,q⟩
 refine ⟨⟨I.base,fz,I.scp,I.kind,I.globs,I.blts,let ⟨m,hn⟩:=I.ns; ⟨m,hn.at' fun o e=>hk _ o (Ne.symm hL) e⟩,I.nsΦ,I.nsW,I.nsG,fun y c hc=>?_,I.celG,I.celA,I.celD,fun y d' hy=>?_,?_,R.stable I.rsc (fun b o e hf=>hk b o (fun q=>a3 (q ▸ hf)) e) (Le.refl _) fun b hf=>(R.there I.rsc hf).no',
  ⟨I.step0.gens,I.step0.os,fun b o e=>?_,I.step0.le,I.step0.new,fz,fun b o e q=>let ⟨o₁,e₁,f₁⟩:=I.step0.fr b o e q; ⟨o₁,fr b o₁ e₁ f₁,f₁⟩⟩,I.fpG,fun e he=>let ⟨h1,L,o,h2,h3,h3',h4,h5⟩:=I.frs e he; ⟨h1,L,o,h2,h3,h3',fr L o h4 h5,h5⟩⟩,⟨rfl,rfl,fun b o e=>?_,Le.refl _,fun o9 e n=>absurd e n,fz,fun b o e q=>⟨o,fr b o e q,q⟩⟩,?_,.refl⟩
 ·obtain ⟨⟨v,oc,hoc,hdc⟩,q⟩:=I.cel y c hc
  exact ⟨⟨v,oc,hk _ oc (hC _ _ hc) hoc,hdc⟩,q⟩
 ·have q:y≠x:=fun q=>by subst q; rw [lookup_cons_self] at hy; (first | exact dNS hy | exact dSN hy | (obtain rfl:=Option.some.inj hy) | cases hy)
  rw [lookup_cons_ne q] at hy
  obtain ⟨v,q1,q2⟩:=I.vals y d' hy
  exact ⟨v,hvar y v q1,q2⟩
 ·refine ⟨ad,fun y es hy=>?_,fun y z es₁ es₂ hy hz hne=>?_⟩
  ·rcases key y es hy with ⟨rfl,rfl⟩ | ⟨q,hy'⟩
   ·exact ⟨hvar _ _ a1,⟨f,o',vs',m',ho,hp,hd,hr⟩,a3,a4⟩
   ·obtain ⟨b1,⟨f',oy,vy,my,hoy,ry1,ry2,ry3⟩,b3,b4⟩:=h1 y es hy'
    exact ⟨hvar _ _ b1,⟨f',oy,vy,my,hk _ oy (h2 y x es ds hy' hx q) hoy,ry1,ry2,ry3⟩,b3,b4⟩
  ·obtain ⟨_,q1⟩:=keyO y es₁ hy
   obtain ⟨_,q2⟩:=keyO z es₂ hz
   exact h2 y z _ _ q1 q2 hne
 ·obtain ⟨ob,eb,q⟩:=I.step0.keep b o e
  exact ⟨ob,hk b ob (fun z=>by rw [z,a4] at e; (first | exact dNS e | exact dSN e | (obtain rfl:=Option.some.inj e) | cases e)) eb,q⟩
 ·by_cases q:b = ad x
  ·subst q; exact ⟨o',ho,fun nq=>absurd (.inr (.inr (.inr ⟨x,ds,hx,a1⟩))) nq⟩
  ·exact ⟨o,hk b o q e,fun o9=>.inl rfl⟩
 ·rintro b ⟨y,es,hy,hvy⟩
  obtain ⟨es',q⟩:=keyO y es hy
  obtain ⟨b1,_⟩:=h1 y es' q
  have:=VarIs.inj hvy (hvar _ _ b1)
  (first | (obtain rfl:=Value.ref.inj this) | cases this)
  exact .inl ⟨y,es',q,b1⟩
theorem upd_list {h:Heap} {a:Addr} {o:Obj} {vs:Array Value} {m:Nat} (f:Array Value→Array Value) (ho:h.get? a = some o) (hp:PL o) (hd:o.data = .seq vs m) :
  (∃ o' m',(h.update a (Obj.mapSeq f)).get? a = some o'∧PL o'∧o'.data = .seq (f vs) m')∧∀ b ob,b≠a→h.get? b = some ob→(h.update a (Obj.mapSeq f)).get? b = some ob:=by
 obtain ⟨c,di,da,sl⟩:=o
 obtain ⟨h1,h2,h3⟩:=hp
 dsimp only at h1 h2 h3 hd
 subst h1 h2 h3 hd
 refine ⟨⟨_,_,Heap.get?_update_self _ ho rfl,⟨rfl,rfl,rfl⟩,rfl⟩,fun b ob hb e=>?_⟩
 rw [(Heap.SameBut.update h a _).2 b hb]; exact e
theorem exact_list {h:Heap} {a:Addr} {o:Obj} {vs:Array Value} {m:Nat} (ho:h.get? a = some o) (hp:PL o) (hd:o.data = .seq vs m):h.get? a = some { cls:=.type "list",dict:=none,data:=.seq vs m,slots:=#[] }:=by
 obtain ⟨c,di,da,sl⟩:=o
 obtain ⟨h1,h2,h3⟩:=hp
 dsimp only at h1 h2 h3 hd
 subst h1 h2 h3 hd
 exact ho
theorem meth_own {A:Around} {G:Ent} {env:Env} {Φ:Fz} {s:Shared} {E:Value→Shared→Prop} {x m:Str} {id:String} {p ap cp:Pos} {es:List Expr} {ds:List PyData} {Q:Value→Shared→Prop} (I:Inv K R G sc env ρ S Φ s) (hx:ρ.lookup x = some (.own ds))
  (slot:PySem.Slot "list" m id) (hty:typeOf (.builtin id) = pure (.type "method_descriptor")) (hd:(x == ("__debug__":Str)) = false) (hline:(ap.endLine == cp.line) = true)
  (hfew:∀ env,((backTo cp (starEach es env)).all (fun x=>!x.1) && (backToKw cp (keywordEach [] env)).all (fun x=>x.1.isSome) && decide (es.length + ([]:List Keyword).length + (if ([]:List Keyword).isEmpty then 0 else 1) < 30)) = true)
  (h:∀ a,VarIs K env s.heap x (.ref a)→Owns Φ s.heap a ds→wpAny K.M A (callWith cp (.builtin id) [.ref a] (backTo cp (starEach es env)) []) Q E s) :
  wpAny K.M A (eval (.Call (.Attribute (.Name x p) m ap) es [] cp) env) Q E s:=by
 obtain ⟨ad,h1,_⟩:=I.owns
 obtain ⟨a1,a2,a3,a4⟩:=h1 x ds hx
 have a2':=a2
 obtain ⟨_,o,vs,k,ho,c,d,_⟩:=a2'
 exact wpAny_Call_method rfl (hfew env) hline F.plainAttrs_list slot hty (wpAny_Name (loads I a1 ⟨⟨o,ho,c.1⟩,fun b e=>by cases e; exact ⟨o,ho,c.2.1⟩,h _ a1 a2⟩) hd)
end
section
variable {n:Nat} {K:Kx} {R:Rsc} {sc:Scope} {ρ:Rho} {S:R.σ}
theorem own_at {G:Ent} {env:Env} {Φ Φ₁:Fz} {s s₁:Shared} {S₁:R.σ} {x:Str} {a:Addr} (I:Inv K R G sc env ρ S Φ s) (y:After K R G sc env ρ S Φ s S₁ Φ₁ s₁) (hv:VarIs K env s.heap x (.ref a)):VarIs K env s₁.heap x (.ref a) :=
 hv.of_step y.step I.nsW fun z c hc=>(I.cel z c hc).nfp
theorem own_now {G:Ent} {env:Env} {Φ:Fz} {s:Shared} {x:Str} {a:Addr} {ds:List PyData} (I:Inv K R G sc env ρ S Φ s) (hx:ρ.lookup x = some (.own ds)) (hv:VarIs K env s.heap x (.ref a)):Owns Φ s.heap a ds∧¬ R.fp S a:=by
 obtain ⟨ad,h1,_⟩:=I.owns
 obtain ⟨a1,a2,a3,a4⟩:=h1 x ds hx
 have:=VarIs.inj hv a1
 (first | (obtain rfl:=Value.ref.inj this) | cases this); exact ⟨a2,a3⟩
theorem arg1 {A:Around} {E:Value→Shared→Prop} {s:Shared} {env:Env} {id:String} {self:Value} {cp:Pos} {e:Expr} {Q:Value→Shared→Prop} (he:isStarred e = false)
  (h:wpAny K.M A (eval e env) (fun v s₁=>wpAny K.M A (call (.builtin id) [self,v]) Q E s₁) E s):wpAny K.M A (callWith cp (.builtin id) [self] (backTo cp (starEach [e] env)) []) Q E s:=by
 rw [star_cons he]
 refine callWith_builtin rfl (evalArgs_plain ?_)
 exact spliced_cons (wpAny_mono h (fun v s₁ h₁=>spliced_nil h₁) fun o9 o9 x=>x)
theorem arg0 {A:Around} {E:Value→Shared→Prop} {s:Shared} {env:Env} {id:String} {self:Value} {cp:Pos} {Q:Value→Shared→Prop}
  (h:wpAny K.M A (call (.builtin id) [self]) Q E s):wpAny K.M A (callWith cp (.builtin id) [self] (backTo cp (starEach [] env)) []) Q E s :=
 callWith_builtin rfl (PyProof.Rows.evalArgs_none h)
theorem wx_append {x:Str} {p ap cp pos:Pos} {e:Expr} {ds:List PyData} {Q:Fl→Rho→R.σ→Prop} (hx:ρ.lookup x = some (.own ds)) (hl:ds.length≤sizeLine)
  (h:WE n K R sc ρ S e (IsD D.py fun y=>Q .next ((x,.own (ds ++ [y])) :: ρ))) (he:isStarred e = false:=by rfl) (hline:(ap.endLine == cp.line) = true:=by rfl) (hd:(x == ("__debug__":Str)) = false:=by rfl) :
  WX n K R sc ρ S (.Expr (.Call (.Attribute (.Name x p) "append" ap) [e] [] cp) pos) Q :=
 fun A G env Φ s ok hm I=>by
  refine wpAny_Expr (meth_own I hx F.slot_list_append F.type_list_append hd hline (fun env=>by rw [star_cons he]; rfl) fun a hv o9=>arg1 he (wpAny_mono (h A G env Φ s ok I) (fun v s₁ hp0=>?_) fun o9 o9 x=>x.elim)) (inter_false I) rfl
  obtain ⟨Φ₁,S₁,d,y,r,z,e,q⟩:=hp0
  subst e
  have hv₁:=own_at I y hv
  obtain ⟨⟨f,o,vs,m,ho,c,hda,hr⟩,_⟩:=own_now y.inv hx hv₁
  have hz:=size_eq hr
  refine wpAny_list_append_plain (hsz:=by first | exact Nat.succ_pos _ | omega) (plain_of ho c hda) fun h' hl' hs=>?_
  obtain ⟨ol,ml,hol,hlc,hld⟩:=of_plain hl'
  have M:=y.inv.mutate (tk:=s₁.toks) (ds':=ds ++ [z]) hx hv₁ (fun b ob hb eb=>by rw [hs.2 b hb]; exact eb) hol hlc hld (by rw [Array.toList_push]; exact hr.append (Reps.one r))
  exact ⟨Φ₁,_,S₁,.next,(After.stmt I y).trans M,trivial,q⟩
theorem wx_clear {x:Str} {p ap cp pos:Pos} {ds:List PyData} {Q:Fl→Rho→R.σ→Prop} (hx:ρ.lookup x = some (.own ds)) (hl:ds.length≤sizeLine)
  (q:Q .next ((x,.own []) :: ρ) S) (hline:(ap.endLine == cp.line) = true:=by rfl) (hd:(x == ("__debug__":Str)) = false:=by rfl) :
  WX n K R sc ρ S (.Expr (.Call (.Attribute (.Name x p) "clear" ap) [] [] cp) pos) Q :=
 fun A G env Φ s ok hm I=>by
  refine wpAny_Expr (meth_own I hx F.slot_list_clear F.type_list_clear hd hline (fun env=>rfl) fun a hv ow=>arg0 ?_) (inter_false I) rfl
  obtain ⟨f,o,vs,m,ho,c,hda,hr⟩:=ow
  have hz:=size_eq hr
  refine call_meets F.slot_list_clear ⟨o,ho,c.1⟩ F.entry_list_clear (F.args_list_clear_1 _) (AutoSeq1.list_clear_list_0 a vs m (by grows_one)) ⟨exact_list ho c hda,?_⟩
  obtain ⟨⟨o',m',h1,h2,h3⟩,h4⟩:=upd_list (fun o9=>#[]) ho c hda
  exact ⟨Φ,_,S,.next,I.mutate (tk:=s.toks) (ds':=[]) hx hv h4 h1 h2 h3 rfl,trivial,q⟩
set_option tactic.hygienic true in
theorem erase_toList (vs:Array Value) (j:Nat):(vs.eraseIdxIfInBounds j).toList = vs.toList.eraseIdx j:=by
 unfold Array.eraseIdxIfInBounds
 split
 ·rw [Array.toList_eraseIdx]
 ·rename_i h; rw [List.eraseIdx_of_length_le (by simpa using h)]
end
noncomputable def BindsRep (Φ:Fz):List (Str×D)→List (Str×Value)→Prop
 | [],bs=>bs = []
 | (x,d) :: l,bs=>∃ v r,bs = (x,v) :: r∧Rep Φ d v∧BindsRep Φ l r
structure IsFn (K:Kx) (fa:Addr) (fd:FuncData) (body:List Stmt):Prop where
 obj:∃ o,K.B.get? fa = some o∧o.data = .func fd
 body:fd.body = .stmts body
 code:K.B.CodeRec fd.code fd.qualname
 clo:fd.closure = []
 globs:fd.globals = mainGlobals
 blts:fd.builtins = builtinsNs
 co:fd.scope.isCoroutine = false
 gen:fd.scope.isGenerator = false
 kind:fd.scope.kind = .function
noncomputable def defOk (sc:Scope) (ps:List Str):Bool:=(sc.names.all fun y=>sc.names.lookup y.1 == some y.2 && y.2 != .free) && (ps.all (isVar sc)) && decide ps.Nodup
noncomputable def vals (l:List (Str×D)):Rho:=l.map fun x=>(x.1,.val x.2)
theorem vals_lookup {l:List (Str×D)} {x:Str} {sl:Slot} (h:(vals l).lookup x = some sl):∃ d,sl = .val d∧l.lookup x = some d:=by
 induction l with
 | nil=>cases h
 | cons y l ih =>
  obtain ⟨y,d⟩:=y
  simp only [vals,List.map_cons] at h ih
  rw [List.lookup_cons] at h ⊢
  cases q:x == y with
  | true=>rw [q] at h; (first | (obtain rfl:=Option.some.inj h) | cases h); exact ⟨d,rfl,rfl⟩
  | false=>rw [q] at h; exact ih h
section
variable {n:Nat} {K:Kx} {R:Rsc} {S:R.σ}
theorem Okay.deeper {A:Around} (ok:Okay (n + 1) A) (env:Env):Okay n (A.deeper env) :=
 ⟨fun o9=>ok.hd (Nat.succ_pos _),by have:=ok.depth; show A.depth + 1 + n < 900; dict_keeps,by have:=ok.units; show A.units + 3 + 100 * n < 9000; dict_keeps,ok.gd⟩
noncomputable def revBind:List (Str×D)→Rho→Rho
 | [],ρ=>ρ
 | (x,d) :: l,ρ=>revBind l ((x,.val d) :: ρ)
theorem revBind_not {l:List (Str×D)} {x:Str} (h:x∉l.map (·.1)):∀ ρ:Rho,(revBind l ρ).lookup x = ρ.lookup x:=by
 induction l with
 | nil=>exact fun o9=>rfl
 | cons y l ih=>exact fun ρ=>(ih (fun z=>h (.tail _ z)) _).trans (lookup_cons_ne fun z=>h (z ▸ .head _))
theorem revBind_get {l:List (Str×D)} {x:Str} {d:D} (hn:(l.map (·.1)).Nodup) (h:l.lookup x = some d):∀ ρ:Rho,(revBind l ρ).lookup x = some (.val d):=by
 induction l with
 | nil=>exact nomatch h
 | cons y l ih =>
  intro ρ
  have hn':=List.nodup_cons.mp hn
  rw [List.lookup_cons] at h
  cases q:x == y.1 with
  | true =>
   rw [q] at h
   obtain rfl:=Option.some.inj h
   obtain rfl:=eq_of_beq q
   exact (revBind_not hn'.1 _).trans lookup_cons_self
  | false=>rw [q] at h; exact ih hn'.2 h _
theorem revBind_sub {l:List (Str×D)} (hn:(l.map (·.1)).Nodup):Sub (vals l) (revBind l []):=fun x sl h=>by
 obtain ⟨d,e,h'⟩:=vals_lookup h
 subst e; exact revBind_get hn h' _
theorem bind_loop {A:Around} {E:Value→Shared→Prop} {G:Ent} {sc:Scope} {env:Env} {Φ:Fz} (f:Str×Value→PUnit→Sem (ForInStep PUnit)) (hf:∀ n v u,f (n,v) u = (do storeName env n v; pure (.yield ⟨⟩))) (hm:∀ x,G.mine x = true) :
  ∀ (binds:List (Str×Value)) (l:List (Str×D)) (ρ:Rho) (s:Shared) (Q:PUnit→Shared→Prop),BindsRep Φ l binds→(∀ x∈l.map (·.1),isVar sc x = true)→Inv K R G sc env ρ S Φ s →
   (∀ s',Inv K R G sc env (revBind l ρ) S Φ s'→Step (fun a=>a = env.locals∨∃ x,env.cells.lookup x = some a) Φ s Φ s'→Q ⟨⟩ s')→wpAny K.M A (forIn binds ⟨⟩ f) Q E s
 | binds,[],ρ,s,Q,hb,_,I,h=>by
  cases hb; rw [List.forIn_nil]; exact wpAny_pure (h s I (.refl I.froz))
 | binds,(x,d) :: l,ρ,s,Q,⟨v,r,e,hr,hb⟩,hv,I,h=>by
  subst e
  rw [List.forIn_cons,hf]
  refine wpAny_bind (wpAny_bind (stored I (isVar_or (hv x (by simp))) (hm x) fun s' X=>wpAny_pure ?_))
  refine bind_loop f hf hm r l _ s' Q hb (fun y hy=>hv y (by simp at hy ⊢; exact .inr hy)) (X.val I hr) fun s'' I'' st=>h s'' I'' ?_
  refine (X.step.weaken fun a ha=>?_).trans st fun a ha=>.inl ha
  rcases ha with h | h
  ·exact .inl h
  ·exact .inr ⟨x,h⟩
theorem call_enter {A:Around} {Φ:Fz} {s:Shared} {fa:Addr} {fd:FuncData} {body:List Stmt} {vs:List Value} {l:List (Str×D)} {fs:List Env} {RR:Result→Shared→Prop} (ok:Okay (n + 1) A) (F:Fzn K Φ s) (hok:R.ok S Φ s.heap) (fn:IsFn K fa fd body)
  (hfs:FrsOk K fs Φ s)
  (hd:defOk fd.scope (l.map (·.1)) = true)
  (hbind:wpAny K.M A.in1 (bindArgs fd ⟨vs,[]⟩) (fun binds s₁=>∃ Φ₁,Step NoW Φ s Φ₁ s₁∧BindsRep Φ₁ l binds) (fun o9 o9=>False) s)
  (h:∀ env Φ₁ s₁,env.frame = some env.locals→Inv K R ⟨s,Φ,R.fp S,fun o9=>true,env :: fs⟩ fd.scope env (vals l) S Φ₁ s₁ →
   wpAny K.M (A.deeper env) (execs body env) (fun f s'=>RR (.ok (.ret (match f with | .ret v=>v | _=>.none))) s')
    (fun e s'=>wpAny K.M (A.deeper env) (leaving env e) (fun o9 s''=>RR (.error e) s'') (fun e' s''=>RR (.error e') s'') s') s₁) :
  codeAny K.M A (.call (.ref fa) ⟨vs,[]⟩) RR s:=by
 obtain ⟨o,ho,hdata⟩:=fn.obj
 refine codeAny_call_function ok.room (F.keeps _ _ ho) hdata fn.co fn.gen fn.body (fn.code.keeps F.keeps) ?_
 refine wpAny_mono hbind (fun binds s₁ hp0=>?_) fun o9 o9 x=>x.elim
 obtain ⟨Φ₁,st₁,hb⟩:=hp0
 rw [fn.clo]
 have hd':=hd
 unfold defOk at hd'
 simp only [Bool.and_eq_true,List.all_eq_true,beq_iff_eq,bne_iff_ne,ne_eq,decide_eq_true_eq] at hd'
 obtain ⟨⟨hn1,hn2⟩,hn3⟩:=hd'
 have F₁:=F.step st₁
 simp only [newFunctionEnv,Option.isSome_none,Bool.false_eq_true,if_false]
 refine wpAny_bind (wpAny_alloc ?_)
 refine wpAny_bind (wpAny_layCells _ (fun name kind cells=>by cases hkc:kind == NameKind.cell <;> simp [hkc]) _ _ _ _ ?_)
 have hz:(s₁.heap.push { cls:=.type "frame",data:=.dict #[] }).objs.size = s₁.heap.objs.size + 1:=Heap.size_push ..
 generalize hh₁:s₁.heap.push { cls:=.type "frame",data:=.dict #[] } = h₁ at hz ⊢
 dsimp only
 have keep:∀ b o,s₁.heap.get? b = some o→(pushCells h₁ fd.scope.names).get? b = some o:=fun b o e=>pushCells_keeps _ _ b o (hh₁ ▸ Heap.get?_push_of_some _ e)
 have st₂:Step NoW Φ₁ s₁ Φ₁ { s₁ with heap:=pushCells h₁ fd.scope.names }:=Step.of_keeps (tk:=s₁.toks) (dr:=s₁.drawn) F₁.froz keep
 have st:=st₁.trans st₂ fun a ha=>ha.elim
 have F₂:=F.step st
 have hLn:s₁.heap.get? s₁.heap.objs.size = none:=heap_size_none _
 have hok₂:R.ok S Φ₁ (pushCells h₁ fd.scope.names):=R.stable hok (fun a o e hf=>by
  obtain ⟨o',e',q⟩:=st.keep a o e
  rcases q (fun h=>h.elim) with rfl | ⟨c,_⟩
  ·exact e'
  ·obtain ⟨_,o₂,e₂,nn⟩:=R.there hok hf
   rw [e] at e₂; (first | (obtain rfl:=Option.some.inj e₂) | cases e₂); exact absurd c nn) st.le fun a hf=>let ⟨h1,_,h2,_⟩:=R.there hok hf; st.noneΦ h1 h2 fun h=>h.elim
 have mem:∀ x c,(cellsFrom h₁.objs.size fd.scope.names []).lookup x = some c→fd.scope.names.lookup x = some .cell∧h₁.objs.size≤c∧(pushCells h₁ fd.scope.names).IsCell c none:=fun x c e=>by
  rcases cellsFrom_mem e with e | ⟨h1,h2,h3⟩
  ·cases e
  ·exact ⟨(hn1 _ h1).1,h2,h3⟩
 have fresh:∀ c,h₁.objs.size≤c→s₁.heap.get? c = none:=fun c hc=>by
  cases e:s₁.heap.get? c with
  | none=>rfl
  | some o=>have:=Heap.lt_size e; rw [hz] at hc; exact absurd this (Nat.not_lt.mpr (Nat.le_of_succ_le hc))
 have fpn:∀ a,s₁.heap.get? a = none→¬ R.fp S a:=fun a ha hf=>by
  obtain ⟨_,o₂,e₂,_⟩:=R.there hok hf
  obtain ⟨o',e',_⟩:=st₁.keep a o₂ e₂
  rw [ha] at e'; (first | exact dNS e' | exact dSN e' | (obtain rfl:=Option.some.inj e') | cases e')
 have hfrm:(pushCells h₁ fd.scope.names).get? s₁.heap.objs.size = some { cls:=.type "frame",data:=.dict #[] }:=pushCells_keeps _ _ _ _ (hh₁ ▸ Heap.get?_push_size _ rfl)
 generalize henv:({ scope:=fd.scope,locals:=s₁.heap.objs.size,globals:=fd.globals,cells:=cellsFrom h₁.objs.size fd.scope.names [],qual:=fd.qualname ++ ".<locals>.",func:=some fa,code:=fd.code,frame:=some s₁.heap.objs.size,builtins:=fd.builtins }:Env) = env
 have I:Inv K R ⟨s,Φ,R.fp S,fun o9=>true,env :: fs⟩ fd.scope env [] S Φ₁ { s₁ with heap:=pushCells h₁ fd.scope.names }:=by
  subst henv
  refine ⟨F₂.base,F₂.froz,rfl,fn.kind,fn.globs,fn.blts,⟨fun o9=>none,?_⟩,none_of_fresh F₁.froz hLn,fpn _ hLn,heap_none_of_step st₁ hLn,fun x c hc=>?_,fun x c o9 hc=>heap_none_of_step st₁ (fresh c (mem x c hc).2.1),fun x hx=>?_,fun x y c hx hy=>?_,fun x d hx=>(by cases hx),
   ⟨fun o9=>0,fun x ds hx=>(by cases hx),fun x y ds es hx=>(by cases hx)⟩,hok₂,st.weaken fun a h=>h.elim,fun a h=>.inl h,fun e he=>?_⟩
  ·have:=Heap.Ns.new s₁.heap (.type "frame")
   rw [hh₁] at this
   exact this.keeps (pushCells_keeps _ _)
  ·obtain ⟨_,q1,q2⟩:=mem x c hc
   exact ⟨⟨_,q2⟩,none_of_fresh F₁.froz (fresh c q1),fpn _ (fresh c q1)⟩
  ·have hce:fd.scope.names.lookup x = some .cell:=by
    rcases hx with q | q
    ·exact q
    ·exact absurd rfl ((hn1 _ (mem_of_lookup q)).2)
   exact Option.isSome_iff_exists.mp (cellsFrom_some (m:=h₁.objs.size) (acc:=[]) (mem_of_lookup hce))
  ·exact cellsFrom_inj (fun x c e=>(by cases e)) (fun x y c e=>(by cases e)) x y c hx hy
  ·rcases List.mem_cons.mp he with rfl | he
   ·refine ⟨(by rw [fn.kind]; intro q; cases q),s₁.heap.objs.size,_,rfl,?_,none_of_fresh F₁.froz hLn,hfrm,rfl,_,_,rfl⟩
    cases q:K.B.get? s₁.heap.objs.size with
    | none=>rfl
    | some o=>have:=F₁.keeps _ _ q; rw [hLn] at this; (first | exact dNS this | exact dSN this | (obtain rfl:=Option.some.inj this) | cases this)
   ·exact hfs.step st (fun o9 o9 o9 o9 o9 o9 h=>h.elim) e he
 refine wpAny_bind (bind_loop (G:=⟨s,Φ,R.fp S,fun o9=>true,env :: fs⟩) _ (fun n v u=>rfl) (fun o9=>rfl) binds l [] _ _ hb hn2 I fun s₃ I₃ st₃=>wpAny_pure ?_)
 have F₃:Fzn K Φ₁ s₃:=I₃.fzn
 exact ⟨K.lim.keeps F₃.keeps,codeAny_func (h env Φ₁ s₃ (by rw [← henv]) (I₃.sub (revBind_sub hn3)))⟩
set_option genInjectivity false in
inductive Ret where
 | val (d:D)
 | new (ds:List PyData)
 | exc (cls:Value) (ds:List PyData)
noncomputable def RetRep (R:Rsc) (S':R.σ) (Φ':Fz) (s s':Shared) (v:Value):Ret→Prop
 | .val d=>Rep Φ' d v
 | .new ds=>∃ a,v = .ref a∧Owns Φ' s'.heap a ds∧¬ R.fp S' a∧s.heap.get? a = none
 | .exc _ _=>False
inductive XC (R:Rsc) (S:R.σ) (Φ:Fz) (s:Shared) (X:Value→List PyData→R.σ→Prop) (e:Value) (s':Shared):Prop
 | mk (ea:Addr) (Φ':Fz) (S':R.σ) (cls:Value) (ds:List PyData) (tr:Bool) (h:e = .ref ea) (st:Step (R.fp S) Φ s Φ' s') (f:FpLe R S s S') (k:R.ok S' Φ' s'.heap) (x:ExcSt R s.heap tr Φ' S' s' ea cls ds) (q:X cls ds S')
inductive PC (R:Rsc) (S:R.σ) (Φ:Fz) (s:Shared) (Q:Ret→R.σ→Prop) (v:Value) (s':Shared):Prop
 | mk (Φ':Fz) (S':R.σ) (r:Ret) (st:Step (R.fp S) Φ s Φ' s') (f:FpLe R S s S') (k:R.ok S' Φ' s'.heap) (p:RetRep R S' Φ' s s' v r) (q:Q r S')
noncomputable def WCall (n:Nat) (K:Kx) (R:Rsc) (S:R.σ) (f:Value) (ds:List D) (Q:Ret→R.σ→Prop):Prop :=
 ∀ A fs Φ s vs,Okay n A→A.frames = some fs→FrsOk K fs Φ s→Fzn K Φ s→R.ok S Φ s.heap→RepDs Φ ds vs →
  codeAny K.M A (.call f ⟨vs,[]⟩) (fun r s'=>match r with
   | .ok (.ret v)=>PC R S Φ s Q v s'
   | .ok _=>False
   | .error e=>XC R S Φ s (fun cls ds S'=>Q (.exc cls ds) S') e s') s
theorem WCall.wp {f:Value} {ds:List D} {Q:Ret→R.σ→Prop} (h:WCall n K R S f ds Q) (A:Around) (fs:List Env) (Φ:Fz) (s:Shared) (vs:List Value) (ok:Okay n A) (hfr:A.frames = some fs) (hfs:FrsOk K fs Φ s) (F:Fzn K Φ s) (hok:R.ok S Φ s.heap) (hr:RepDs Φ ds vs) :
  wpAny K.M A (call f vs) (PC R S Φ s Q) (XC R S Φ s fun cls ds S'=>Q (.exc cls ds) S') s :=
 wpAny_call (h A fs Φ s vs ok hfr hfs F hok hr)
theorem WCall.mono {f:Value} {ds:List D} {Q Q':Ret→R.σ→Prop} (h:WCall n K R S f ds Q) (hq:∀ r S',Q r S'→Q' r S'):WCall n K R S f ds Q':=fun A fs Φ s vs ok hfr hfs F hok hr =>
 codeAny_mono (h A fs Φ s vs ok hfr hfs F hok hr) fun r s' z=>by
  cases r with
  | ok fl =>
   cases fl with
   | ret v=>obtain ⟨Φ',S',r,a1,a2,a3,a4,a5⟩:=z; exact ⟨Φ',S',r,a1,a2,a3,a4,hq _ _ a5⟩
   | _=>exact z
  | error e=>obtain ⟨ea,Φ',S',cls,ds,tr,a1,a2,a3,a4,a5,a6⟩:=z; exact ⟨ea,Φ',S',cls,ds,tr,a1,a2,a3,a4,a5,hq _ _ a6⟩
noncomputable def retOf (Q:Ret→R.σ→Prop):Fl→Rho→R.σ→Prop
 | .next,_,S'=>Q (.val .none) S'
 | .ret d,_,S'=>Q (.val d) S'
 | .retF ds,_,S'=>Q (.new ds) S'
 | .exc cls ds,_,S'=>Q (.exc cls ds) S'
 | _,_,_=>False
theorem RepDs.binds {Φ:Fz} {ds:List D}:∀ {ps:List Str} {vs:List Value},ps.length = ds.length→RepDs Φ ds vs→BindsRep Φ (ps.zip ds) (ps.zip vs):=by
 induction ds with
 | nil =>
  intro ps vs hl h
  obtain rfl:=List.eq_nil_of_length_eq_zero hl
  exact rfl
 | cons d ds ih =>
  intro ps vs hl h
  cases ps with
  | nil=>exact nomatch hl
  | cons p ps =>
   obtain ⟨v,r,e,h1,h2⟩:=h
   subst e
   exact ⟨v,_,rfl,h1,ih (Nat.succ.inj hl) h2⟩
theorem RepDs.length {Φ:Fz} {ds:List D}:∀ {vs:List Value},RepDs Φ ds vs→vs.length = ds.length:=by
 induction ds with
 | nil=>intro vs h; cases h; rfl
 | cons d ds ih=>intro vs h; obtain ⟨v,r,e,_,h⟩:=h; subst e; exact congrArg Nat.succ (ih h)
theorem len0 {α:Type} {P:List α→Prop} (k:P []):∀ vs:List α,vs.length = 0→P vs:=fun vs h=>by rw [List.eq_nil_of_length_eq_zero h]; exact k
theorem lenS {α:Type} {P:List α→Prop} {n:Nat} (k:∀ a (r:List α),r.length = n→P (a :: r)):∀ vs:List α,vs.length = n + 1→P vs:=fun vs h=>by
 cases vs with
 | nil=>exact nomatch h
 | cons a r=>exact k a r (Nat.succ.inj h)
theorem len1 {α:Type} {P:List α→Prop} (k:∀ a,P [a]):∀ vs:List α,vs.length = 1→P vs:=lenS fun a=>len0 (P:=fun r=>P (a :: r)) (k a)
theorem len2 {α:Type} {P:List α→Prop} (k:∀ a b,P [a,b]):∀ vs:List α,vs.length = 2→P vs:=lenS fun a=>len1 (P:=fun r=>P (a :: r)) (k a)
noncomputable def Binds (K:Kx) (fd:FuncData) (ds:List D) (l:List (Str×D)):Prop :=
 ∀ A Φ s vs,Fzn K Φ s→RepDs Φ ds vs→wpAny K.M A (bindArgs fd ⟨vs,[]⟩) (fun binds s₁=>∃ Φ₁,Step NoW Φ s Φ₁ s₁∧BindsRep Φ₁ l binds) (fun o9 o9=>False) s
theorem wcall_gen {fa:Addr} {fd:FuncData} {body:List Stmt} {l:List (Str×D)} {ds:List D} {Q:Ret→R.σ→Prop} (fn:IsFn K fa fd body)
  (hbind:Binds K fd ds l) (hd:defOk fd.scope (l.map (·.1)) = true) (h:WS n K R fd.scope (vals l) S body (retOf Q)):WCall (n + 1) K R S (.ref fa) ds Q :=
 fun A fs Φ s vs ok hfr hfs F hok hr=>by
  refine call_enter (l:=l) ok F hok fn hfs hd (hbind _ Φ s vs F hr) fun env Φ₁ s₁ hfrm I=>?_
  refine wpAny_mono (h (A.deeper env) _ env Φ₁ s₁ ⟨ok.deeper env,by show A.frames.map (env :: ·) = _; rw [hfr]; rfl⟩ ⟨fun o9=>rfl,⟨_,rfl⟩,hfrm⟩ I) (fun f s' p=>?_) fun e s' z=>?_
  rotate_left
  ·show wpAny K.M (A.deeper env) (leaving env e) _ _ s'
   unfold leaving
   refine wpAny_bind (wpAny_mono (z.note (E:=fun o9 o9=>False) (P:=fun e s₂=>XP K R _ _ env _ S Φ₁ s₁ true _ e s₂) (n:=n) ⟨ok.deeper env,by show A.frames.map (env :: ·) = _; rw [hfr]; rfl⟩ ⟨fun o9=>rfl,⟨_,rfl⟩,hfrm⟩ I fun o9 y=>y) (fun o9 s₂ y=>?_) fun o9 o9 x=>x.elim)
   refine wpAny_mono (y.flight (E:=fun o9 o9=>False) (P:=fun e s₂=>XP K R _ _ env _ S Φ₁ s₁ true _ e s₂) I fun o9 y=>y) (fun o9 s₃ y=>?_) fun o9 o9 x=>x.elim
   obtain ⟨ea,Φ',ρ',S',cls,ds,tr,e1,y1,e2,e3,e4⟩:=y
   exact ⟨ea,Φ',S',cls,ds,tr,e1,y1.inv.step0,y1.inv.fpG,y1.inv.rsc,e3.older fun a ha=>I.gone ha,e4⟩
  obtain ⟨Φ',ρ',S',fl,x,r,q⟩:=p
  have fin:∀ v rr,RetRep R S' Φ' s s' v rr→Q rr S'→PC R S Φ s Q v s':=fun v rr h1 h2=>⟨Φ',S',rr,x.inv.step0,x.inv.fpG,x.inv.rsc,h1,h2⟩
  cases f with
  | next=>cases fl <;> first | exact fin .none (.val .none) rfl q | exact False.elim r
  | brk=>cases fl <;> first | exact q.elim | exact False.elim r
  | cont=>cases fl <;> first | exact q.elim | exact False.elim r
  | ret v=>cases fl <;> first | exact fin v (.val _) r q | exact fin v (.new _) r q | exact False.elim r
theorem wcall_of {fa:Addr} {fd:FuncData} {body:List Stmt} {ps:List Str} {ds:List D} {Q:Ret→R.σ→Prop} (fn:IsFn K fa fd body) (hl:ps.length = ds.length)
  (hbind:∀ vs:List Value,vs.length = ps.length→bindArgs fd ⟨vs,[]⟩ = pure (ps.zip vs)) (hd:defOk fd.scope ps = true) (h:WS n K R fd.scope (vals (ps.zip ds)) S body (retOf Q)):WCall (n + 1) K R S (.ref fa) ds Q :=
 wcall_gen fn (fun A Φ s vs F hr=>by rw [hbind vs (by rw [hr.length,hl])]; exact wpAny_pure ⟨Φ,.refl F.froz,hr.binds hl⟩) (by rwa [List.map_fst_zip (by dict_keeps)]) h
end
section
variable {n:Nat} {K:Kx} {R:Rsc} {sc:Scope} {ρ:Rho} {S:R.σ}
theorem ws_freeze {x:Str} {ds:List PyData} {sts:List Stmt} {Q:Fl→Rho→R.σ→Prop} (hx:ρ.lookup x = some (.own ds)) (h:WS n K R sc ((x,.val (.lst ds)) :: ρ) S sts Q):WS n K R sc ρ S sts Q :=
 fun A G env Φ s ok hm I=>by
  obtain ⟨Φ',y⟩:=I.freezeVar hx
  exact wpAny_mono (h A G env Φ' s ok hm y.inv) (fun f s' hp0=>by obtain ⟨Φ₂,ρ₂,S₂,fl,z,r,q⟩:=hp0; exact ⟨Φ₂,ρ₂,S₂,fl,y.trans z,r,q⟩) fun o9 o9 z=>z.trans y
inductive XE (K:Kx) (R:Rsc) (G:Ent) (sc:Scope) (env:Env) (ρ:Rho) (S:R.σ) (Φ:Fz) (s:Shared) (X:Value→List PyData→R.σ→Prop) (e:Value) (s':Shared):Prop
 | mk (ea:Addr) (Φ':Fz) (S':R.σ) (cls:Value) (ds:List PyData) (tr:Bool) (h:e = .ref ea) (a:After K R G sc env ρ S Φ s S' Φ' s') (x:ExcSt R s.heap tr Φ' S' s' ea cls ds) (q:X cls ds S')
theorem XE.no {G:Ent} {env:Env} {Φ:Fz} {s s':Shared} {X:Value→List PyData→R.σ→Prop} {e:Value} (h:XE K R G sc env ρ S Φ s X e s') (hX:∀ cls ds S',¬ X cls ds S'):False :=
 let ⟨_,_,_,_,_,_,_,_,_,x⟩:=h; hX _ _ _ x
theorem XE.trans {G:Ent} {env:Env} {Φ Φ₁:Fz} {S₁:R.σ} {s s₁ s':Shared} {X:Value→List PyData→R.σ→Prop} {e:Value} (x:After K R G sc env ρ S Φ s S₁ Φ₁ s₁) (h:XE K R G sc env ρ S₁ Φ₁ s₁ X e s'):XE K R G sc env ρ S Φ s X e s' :=
 let ⟨ea,Φ',S',cls,ds,tr,h1,h2,h3,h4⟩:=h; ⟨ea,Φ',S',cls,ds,tr,h1,x.trans h2,h3.older fun a ha=>heap_none_of_step x.step ha,h4⟩
theorem XE.stmt {G:Ent} {env:Env} {Φ:Fz} {s s':Shared} {Q:Fl→Rho→R.σ→Prop} {e:Value} (I:Inv K R G sc env ρ S Φ s) (h:XE K R G sc env ρ S Φ s (fun cls ds S'=>Q (.exc cls ds) ρ S') e s'):XP K R G sc env ρ S Φ s false Q e s' :=
 let ⟨ea,Φ',S',cls,ds,tr,h1,h2,h3,h4⟩:=h; ⟨ea,Φ',ρ,S',cls,ds,tr,h1,After.stmt I h2,fun z=>(by cases z),h3,h4⟩
noncomputable def WEX (n:Nat) (K:Kx) (R:Rsc) (sc:Scope) (ρ:Rho) (S:R.σ) (e:Expr) (Q:D→R.σ→Prop) (X:Value→List PyData→R.σ→Prop):Prop :=
 ∀ A G env Φ s,OkayG n A G→Inv K R G sc env ρ S Φ s →
  wpAny K.M A (eval e env) (PE K R G sc env ρ S Φ s Q) (XE K R G sc env ρ S Φ s X) s
theorem WEX.no {e:Expr} {Q:D→R.σ→Prop} (h:WEX n K R sc ρ S e Q fun o9 o9 o9=>False):WE n K R sc ρ S e Q :=
 fun A G env Φ s ok I=>wpAny_mono (h A G env Φ s ok I) (fun o9 o9 x=>x) fun o9 o9 x=>x.no fun o9 o9 o9 z=>z
set_option tactic.hygienic true in
theorem wx_assignX {x:Str} {p pos:Pos} {e:Expr} {Q:Fl→Rho→R.σ→Prop} (h:WEX n K R sc ρ S e (fun d S₁=>Q .next ((x,.val d) :: ρ) S₁) fun cls ds S'=>Q (.exc cls ds) ρ S') (hx:isVar sc x = true:=by rfl)
  (hs:∀ env,swapsWith e (some (.Name x p)) pos.line env = pure false:=by intro o9; rfl):WX n K R sc ρ S (.Assign [.Name x p] e pos) Q :=
 fun A G env Φ s ok hm I=>wpAny_Assign_Name (wpAny_mono (h A G env Φ s ok I) (fun v s₁ ⟨Φ₁,S₁,d,y,r,q⟩ =>
  stored y.inv (isVar_or hx) (hm.mine x) fun s₂ X=>⟨Φ₁,_,S₁,.next,(After.stmt I y).trans (X.afterVal y.inv r),trivial,q⟩) fun o9 o9 x=>x.stmt I) (hs env)
noncomputable def retD (Q:D→R.σ→Prop):Ret→R.σ→Prop
 | .val d,S'=>Q d S'
 | .new ds,S'=>Q (.lst ds) S'
 | .exc _ _,_=>False
theorem evalArgs_any {A:Around} {E:Value→Shared→Prop} {s:Shared} {f:Value} {pos:Pos} {env:Env} {es:List Expr} {Q:Args→Shared→Prop} (hs:es.any isStarred = false)
  (h:wpAny K.M A (spliced (backTo pos (starEach es env))) (fun vs s'=>Q ⟨vs,[]⟩ s') E s):wpAny K.M A (evalArgs f true (backTo pos (starEach es env)) []) Q E s:=by
 cases es with
 | nil =>
  show wpAny K.M A (evalArgs f true [] []) Q E s
  have h:wpAny K.M A (spliced []) (fun vs s'=>Q ⟨vs,[]⟩ s') E s:=h
  unfold evalArgs
  show wpAny K.M A (spliced [] >>= _) Q E s
  refine wpAny_bind (wpAny_mono h (fun vs s' h'=>wpAny_holding ?_) fun o9 o9 x=>x)
  exact wpAny_bind (wpAny_pure (wpAny_bind (wpAny_pure (wpAny_pure h'))))
 | cons e rest =>
  have hs':isStarred e = false:=by simp only [List.any_cons,Bool.or_eq_false_iff] at hs; exact hs.1
  rw [star_cons hs'] at h ⊢
  exact evalArgs_plain h
noncomputable def FnO (K:Kx) (fa:Addr):Prop:=∃ o fd,K.B.get? fa = some o∧o.data = .func fd
theorem ucall {A:Around} {G:Ent} {env:Env} {Φ:Fz} {s:Shared} {f:Str} {fa:Addr} {fp pos:Pos} {es:List Expr} {QQ:Value→Shared→Prop} (ok:OkayG n A G) (I:Inv K R G sc env ρ S Φ s) (hf:K.gl f = some (.ref fa)) (fn:FnO K fa)
  (hk:sc.names.lookup f = some .globalImplicit) (hs:es.any isStarred = false) (hd:(f == ("__debug__":Str)) = false) {Q:Ret→R.σ→Prop}
  (h:WEs n K R sc ρ S es fun ds S₁=>WCall n K R S₁ (.ref fa) ds Q)
  (hq:∀ v s' Φ' S' r,After K R G sc env ρ S Φ s S' Φ' s'→RetRep R S' Φ' s s' v r→Q r S'→QQ v s'):wpAny K.M A (eval (.Call (.Name f fp) es [] pos) env) QQ (XE K R G sc env ρ S Φ s fun cls ds S'=>Q (.exc cls ds) S') s:=by
 show wpAny _ _ (do callWith pos (← eval (.Name f fp) env) [] (backTo pos (starEach es env)) []) _ _ _
 refine wpAny_bind (wpAny_Name (loads I (glob_var I.scp hf hk) ?_) hd)
 obtain ⟨o,fd,ho,hdata⟩:=fn
 refine callWith_function (o:=o) (fd:=fd) (evalArgs_any hs (wpAny_mono (h pos A G env Φ s ok I) (fun vs s₁ ⟨Φ₁,S₁,ds,x₁,r,hc⟩=>⟨⟨x₁.inv.fzn.keeps _ _ ho,hdata⟩,?_⟩) fun o9 o9 x=>x.elim))
 refine wpAny_mono (hc.wp A G.fs Φ₁ s₁ vs ok.toOkay ok.fr x₁.inv.frs x₁.inv.fzn x₁.inv.rsc r) (fun v s' hp0=>?_) fun e s' hp0=>by obtain ⟨ea,Φ',S',cls,ds',tr,h1,st,fpl,rok,h5,h6⟩:=hp0; exact XE.trans x₁ ⟨ea,Φ',S',cls,ds',tr,h1,⟨x₁.inv.step st fpl rok,st,fpl⟩,h5,h6⟩
 obtain ⟨Φ',S',rr,st,fpl,rok,rep,q⟩:=hp0
 have y:After K R G sc env ρ S₁ Φ₁ s₁ S' Φ' s':=⟨x₁.inv.step st fpl rok,st,fpl⟩
 refine hq v s' Φ' S' rr (x₁.trans y) ?_ q
 cases rr with
 | val d=>exact rep
 | new ds =>
  obtain ⟨a,e,ow,nf,hn⟩:=rep
  exact ⟨a,e,ow,nf,heap_none_of_step x₁.step hn⟩
 | exc _ _=>exact rep.elim
theorem we_ucall {f:Str} {fa:Addr} {fp pos:Pos} {es:List Expr} {Q:D→R.σ→Prop} (hf:K.gl f = some (.ref fa)) (fn:FnO K fa)
  (h:WEs n K R sc ρ S es fun ds S₁=>WCall n K R S₁ (.ref fa) ds (retD Q)) (hk:sc.names.lookup f = some .globalImplicit:=by rfl) (hs:es.any isStarred = false:=by rfl) (hd:(f == ("__debug__":Str)) = false:=by rfl):WE n K R sc ρ S (.Call (.Name f fp) es [] pos) Q :=
 fun A G env Φ s ok I=>wpAny_mono (ucall (QQ:=fun v s'=>∃ Φ' S' r,After K R G sc env ρ S Φ s S' Φ' s'∧RetRep R S' Φ' s s' v r∧_) ok I hf fn hk hs hd h fun v s' Φ' S' r x rep q=>⟨Φ',S',r,x,rep,q⟩) (fun v s' hp0=>by
  obtain ⟨Φ',S',r,x,rep,q⟩:=hp0
  cases r with
  | val d=>exact ⟨Φ',S',d,x,rep,q⟩
  | new ds =>
   obtain ⟨a,e,ow,nf,hn⟩:=rep
   subst e
   obtain ⟨hΦ,ob,vs,m,h1,h2,h3,h4⟩:=ow
   refine ⟨_,S',.lst ds,x.freeze I hn h1 hΦ nf,?_,q⟩
   exact ⟨a,ob,vs,m,rfl,Fz.add_self ..,h2,h3,h4.mono (Fz.le_add hΦ)⟩
  | exc _ _=>exact rep.elim) fun o9 o9 x=>x.no fun o9 o9 o9 z=>z
end
theorem RepDs.pys {Φ:Fz} {ps:List PyData}:∀ {vs:List Value},RepDs Φ (ps.map D.py) vs→Reps Φ ps vs:=by
 induction ps with
 | nil =>
  exact fun h=>h
 | cons p ps ih =>
  rintro vs ⟨v,r,e,h1,h2⟩
  exact ⟨v,r,e,h1,ih h2⟩
section
variable {n:Nat} {K:Kx} {R:Rsc} {sc:Scope} {ρ:Rho} {S:R.σ}
theorem Inv.kf {G:Ent} {env:Env} {Φ:Fz} {s:Shared} (I:Inv K R G sc env ρ S Φ s):K.kf.In s.heap:=K.kfB.keeps fun a o e=>I.froz a o (I.base a o e)
theorem Inv.freezeObj {G:Ent} {env:Env} {Φ:Fz} {s:Shared} {a:Addr} {o:Obj} {vs:Array Value} (I:Inv K R G sc env ρ S Φ s) (ho:s.heap.get? a = some o) (hd:o.data = .fields vs) (hΦ:Φ a = none) (hfp:¬ R.fp S a) (hG:G.s.heap.get? a = none) :
  Inv K R G sc env ρ S (Φ.add a o) s:=by
 have le:Le Φ (Φ.add a o):=Fz.le_add hΦ
 have other:∀ b,b≠a→(Φ.add a o) b = Φ b:=fun b hb=>by simp [Fz.add,hb]
 have fz:∀ b o',(Φ.add a o) b = some o'→s.heap.get? b = some o':=fun b o' e=>by
  by_cases q:b = a
  ·subst q; rw [Fz.add_self] at e; (first | (obtain rfl:=Option.some.inj e) | cases e); exact ho
  ·rw [other b q] at e; exact I.froz b o' e
 refine ⟨fun b o' e=>le _ _ (I.base b o' e),fz,I.scp,I.kind,I.globs,I.blts,I.ns,?_,I.nsW,I.nsG,fun y c' hc=>?_,I.celG,I.celA,I.celD,fun y d' hy=>?_,?_,?_,?_,I.fpG,fun e he=>?_⟩
 ·rw [other _ (Ne.symm (I.locals_ne ho (by first | exact nDF hd | exact nSF hd | exact nSD hd | exact nDS hd | (rw [hd]; intro o9 o9 q; cases q))))]; exact I.nsΦ
 ·obtain ⟨q1,q2,q3⟩:=I.cel y c' hc
  exact ⟨q1,by rw [other _ (I.cells_ne ho (by first | exact nCF hd | exact nCD hd | exact nCS hd | (rw [hd]; intro o9 q; cases q)) y c' hc)]; exact q2,q3⟩
 ·obtain ⟨v,q1,q2⟩:=I.vals y d' hy
  exact ⟨v,q1,q2.mono le⟩
 ·obtain ⟨ad,h1,h2⟩:=I.owns
  refine ⟨ad,fun y ds' hy=>?_,h2⟩
  obtain ⟨b1,⟨f',o',vs',m',ho',c',d',r'⟩,b3,b4⟩:=h1 y ds' hy
  exact ⟨b1,⟨by rw [other _ (I.own_ne ho (by first | exact nDF hd | exact nSF hd | exact nSD hd | exact nDS hd | (rw [hd]; intro o9 o9 z; cases z)) y ds' _ hy b1)]; exact f',o',vs',m',ho',c',d',r'.mono le⟩,b3,b4⟩
 ·exact R.stable I.rsc (fun o9 o9 e o9=>e) le fun b hb=>by
   rw [other b (fun q=>hfp (q ▸ hb))]; exact (R.there I.rsc hb).no'
 ·refine ⟨I.step0.gens,I.step0.os,I.step0.keep,I.step0.le.trans le,fun b e nb=>?_,fz,I.step0.fr⟩
  by_cases q:b = a
  ·subst q; exact .inl hG
  ·rw [other b q] at nb; exact I.step0.new b e nb
 ·obtain ⟨q1,L,oL,q2,q3,q4,q5,q6⟩:=I.frs e he
  refine ⟨q1,L,oL,q2,q3,?_,q5,q6⟩
  rw [other L fun z=>?_]; exact q4
  subst z; rw [ho] at q5; (first | (obtain rfl:=Option.some.inj q5) | cases q5); obtain ⟨_,_,_,z⟩:=q6; rw [hd] at z; (first | exact dNS z | exact dSN z | (obtain rfl:=Option.some.inj z) | cases z)
theorem AfterS.freezeObj {G:Ent} {env:Env} {Φ Φ₁:Fz} {s s₁:Shared} {ρ₁:Rho} {S₁:R.σ} {a:Addr} {o:Obj} {vs:Array Value} (I:Inv K R G sc env ρ S Φ s) (x:AfterS K R G sc env ρ S Φ s ρ₁ S₁ Φ₁ s₁) (ho:s₁.heap.get? a = some o) (hd:o.data = .fields vs) (hΦ:Φ₁ a = none) (hfp:¬ R.fp S₁ a) (hn:s.heap.get? a = none) :
  AfterS K R G sc env ρ S Φ s ρ₁ S₁ (Φ₁.add a o) s₁ :=
 ⟨x.inv.freezeObj ho hd hΦ hfp (I.gone hn),x.step.freeze hn ho hΦ,x.own,x.fp⟩
noncomputable def WH (n:Nat) (K:Kx) (R:Rsc) (sc:Scope) (ρ₀:Rho) (S₀:R.σ) (ρ:Rho) (S:R.σ) (cls:Value) (ds:List PyData) (hs:List ExceptHandler) (Q:Fl→Rho→R.σ→Prop):Prop :=
 ∀ A G env Φ₀ s₀ Φ s ea,OkayG n A G→FnG G env→Inv K R G sc env ρ₀ S₀ Φ₀ s₀→AfterS K R G sc env ρ₀ S₀ Φ₀ s₀ ρ S Φ s→ExcSt R s₀.heap true Φ S s ea cls ds →
  wpAny K.M A (handleBy (.ref ea) env hs) (PS K R G sc env ρ₀ S₀ Φ₀ s₀ Q) (XP K R G sc env ρ₀ S₀ Φ₀ s₀ false Q) s
noncomputable def TryQ (n:Nat) (K:Kx) (R:Rsc) (sc:Scope) (ρ:Rho) (S:R.σ) (hs:List ExceptHandler) (orelse:List Stmt) (Q:Fl→Rho→R.σ→Prop):Fl→Rho→R.σ→Prop
 | .next,ρ',S'=>WS n K R sc ρ' S' orelse Q
 | .exc cls ds,ρ',S'=>WH n K R sc ρ S ρ' S' cls ds hs Q
 | fl,ρ',S'=>Q fl ρ' S'
theorem wx_try {body orelse:List Stmt} {h₀:ExceptHandler} {hs:List ExceptHandler} {pos:Pos} {Q:Fl→Rho→R.σ→Prop} (h:WS n K R sc ρ S body (TryQ n K R sc ρ S (h₀ :: hs) orelse Q)):WX n K R sc ρ S (.Try body (h₀ :: hs) orelse [] pos) Q :=
 fun A G env Φ s ok hm I=>by
  refine wpAny_Try_except (wpAny_mono (h A G env Φ s ok hm I) (fun f s₁ ⟨Φ₁,ρ₁,S₁,fl,x,r,q⟩=>?_) fun e s₁ z=>?_)
  ·cases f with
   | next =>
    cases fl with
    | next=>exact wpAny_mono (q A G env Φ₁ s₁ ok hm x.inv) (fun f s₂ hp0=>by obtain ⟨Φ₂,ρ₂,S₂,fl,y,r,q⟩:=hp0; exact ⟨Φ₂,ρ₂,S₂,fl,x.trans y,r,q⟩) fun o9 o9 z=>z.trans x
    | _=>exact False.elim r
   | brk=>cases fl <;> first | exact ⟨Φ₁,ρ₁,S₁,_,x,r,q⟩ | exact False.elim r
   | cont=>cases fl <;> first | exact ⟨Φ₁,ρ₁,S₁,_,x,r,q⟩ | exact False.elim r
   | ret v=>cases fl <;> first | exact ⟨Φ₁,ρ₁,S₁,_,x,r,q⟩ | exact False.elim r
  ·refine wpAny_mono (z.note (E:=fun o9 o9=>False) (P:=fun e s₂=>XP K R G sc env ρ S Φ s true _ e s₂) ok hm I fun o9 y=>y) (fun o9 s₂ y=>?_) fun o9 o9 x=>x.elim
   refine wpAny_mono (y.flight (E:=fun o9 o9=>False) (P:=fun e s₂=>XP K R G sc env ρ S Φ s true _ e s₂) I fun o9 y=>y) (fun o9 s₃ y=>?_) fun o9 o9 x=>x.elim
   obtain ⟨ea,Φ',ρ',S',cls,ds,tr,e1,y1,e2,e3,e4⟩:=y
   have:=e2 rfl; subst this
   subst e1
   exact e4 A G env Φ s Φ' s₃ ea ok hm I y1 e3
theorem OkayG.mark {A:Around} {G:Ent} (ok:OkayG n A G) (e:Value):OkayG 0 (A.mark (some e)) G :=
 ⟨⟨fun z=>absurd z (Nat.lt_irrefl 0),(by have:=ok.depth; show A.depth + 0 < 900; dict_keeps),(by have:=ok.units; show A.units + 100 * 0 < 9000; dict_keeps),ok.gd⟩,ok.fr⟩
structure ExmF (K:Kx) (cls c:Value) (b:Bool):Prop where
 tup:Looks K.M K.B (isInstance c (.type "tuple")) false
 exc:Looks K.M K.B (isExcClass c) true
 sub:Looks K.M K.B (isSubtype cls c) b
theorem exm_of {M:Model} {h:Heap} {e:Addr} {oe:Obj} {c:Value} {b:Bool} (he:h.get? e = some oe) (h1:Looks M h (isInstance c (.type "tuple")) false) (h2:Looks M h (isExcClass c) true) (h3:Looks M h (isSubtype oe.cls c) b):Looks M h (excMatches (.ref e) c) b:=by
 intro A Q E s k q
 unfold excMatches
 refine wpAny_bind ((h1.keeps k).here ?_)
 rw [if_neg Bool.false_ne_true]
 refine wpAny_bind (wpAny_pure ?_)
 simp only [List.forIn_cons,List.forIn_nil]
 refine wpAny_bind (wpAny_bind (wpAny_bind ((h2.keeps k).here ?_)))
 refine wpAny_pure (wpAny_pure ?_)
 have L:Looks M h (typeOf (.ref e)) oe.cls:=(Looks.ld he).andThen .now
 refine wpAny_bind ((L.keeps k).here ?_)
 refine wpAny_bind (wpAny_bind (wpAny_bind ((h3.keeps k).here ?_)))
 cases b
 ·exact wpAny_pure (wpAny_pure (wpAny_pure q))
 ·exact wpAny_pure (wpAny_pure (wpAny_pure q))
theorem exm {G:Ent} {env:Env} {Φ:Fz} {s:Shared} {h₀:Heap} {tr:Bool} {ea:Addr} {cls c:Value} {ds:List PyData} {b:Bool} (I:Inv K R G sc env ρ S Φ s) (X:ExcSt R h₀ tr Φ S s ea cls ds) (hm:ExmF K cls c b):Looks K.M s.heap (excMatches (.ref ea) c) b:=by
 obtain ⟨noΦ,noW,no0,oe,vs,t,he,hc,hd,h0,hsz,hr,alt⟩:=X
 subst hc
 have kp:=fun a o e=>I.froz a o (I.base a o e)
 exact exm_of he (hm.tup.keeps kp) (hm.exc.keeps kp) (hm.sub.keeps kp)
theorem wh_suite {ρ₀:Rho} {S₀:R.σ} {cls c:Value} {ds:List PyData} {x:Str} {np pos:Pos} {b₀:Stmt} {suite:List Stmt} {rest:List ExceptHandler} {Q:Fl→Rho→R.σ→Prop} (hg:K.gl x = some c) (hm:ExmF K cls c true)
  (h:WS 0 K R sc ρ S (b₀ :: suite) Q) (hk:sc.names.lookup x = some .globalImplicit:=by rfl) (hd:(x == ("__debug__":Str)) = false:=by rfl):WH n K R sc ρ₀ S₀ ρ S cls ds (.ExceptHandler (some (.Name x np)) none (b₀ :: suite) pos :: rest) Q :=
 fun A G env Φ₀ s₀ Φ s ea ok hf I y X=>by
  refine wpAny_handleBy_cons (codeAny_handlers_test (wpAny_Name (loads y.inv (glob_var y.inv.scp hg hk) ((exm y.inv X hm).here ?_)) hd)) (by intro q; cases q)
  refine codeAny_handlers_suite (exc_flight y.inv.froz X fun h' st X'=>?_)
  have y':=y.priv I st
  refine wpAny_mono (h (A.mark (some (.ref ea))) G env Φ _ (ok.mark _) hf y'.inv) (fun f s₂ hp0=>by obtain ⟨Φ₂,ρ₂,S₂,fl,z,r,q⟩:=hp0; exact ⟨Φ₂,ρ₂,S₂,fl,y'.trans z,r,q⟩) fun e s₂ z=>?_
  exact (z.trans y').noted (ok.mark _) hf I fun o9 w=>w.back I fun o9 w=>w.any
end
open PySem.Sem in
theorem nsDel_eq {M:Model} {Γ:Ctx} {E:Value→Pos→Shared→Prop} {p:Pos} {s:Shared} {a:Addr} {o:Obj} {es:Array DictEntry} {ep:Nat} (ho:s.heap.get? a = some o) (hd:o.data = .dict es ep) (name:Str) (hs:(es.any fun e=>e.key.isStr name) = true) (Q:Bool→Pos→Shared→Prop) :
  Sem.wp M Γ (nsDel a name) Q E p s = Q true p { s with heap:=s.heap.update a (Obj.dropName name) }:=by
 simp only [nsDel,wp_bind']
 rw [wp_loadPart_of M Γ E p s (o:=o) _ ho]
 have hh:nsHas name o = Pure.pure true:=by rw [nsHas_eq]; unfold nsHasByArray; rw [hd]; simp only [hs,if_true]
 rw [hh]
 simp only [wp_pure',if_true,wp_bind',wp_cmd_updatePart]
 simp [ho]
set_option tactic.hygienic true in
theorem dropName_cls {name:Str} (o:Obj):(Obj.dropName name o).cls = o.cls:=by
 rw [Obj.dropName_eq]; obtain ⟨c,d,da,sl⟩:=o
 cases da
 case dict es ep =>
  unfold Obj.dropNameByArray
  dsimp only
  cases es.findIdx? _ with
  | none=>rfl
  | some i=>rfl
 all_goals rfl
theorem nsDel_keeps {M:Model} {A:Around} {E:Value→Shared→Prop} {s:Shared} {a:Addr} {m:Str→Option Value} {name:Str} {v₀:Value} {Q:Bool→Shared→Prop} (hn:s.heap.Ns a m) (hv:m name = some v₀)
  (h:∀ h' v,h'.Ns a (fun x=>if x = name then v else m x)→Heap.SameBut a s.heap h'→(∀ o,s.heap.get? a = some o→∃ o',h'.get? a = some o'∧o'.cls = o.cls)→Q true { s with heap:=h' }) :
  wpAny M A (nsDel a name) Q E s:=fun Γ p hΓ=>by
 have hn':=hn
 obtain ⟨o,es,ep,ho,hd,hk,hm⟩:=hn'
 have hs:(es.any fun e=>e.key.isStr name) = true:=by
  have:=hm name
  rw [hv] at this
  simp only [nsFind,findBy] at this
  rw [Option.map_eq_some_iff] at this
  obtain ⟨e,he,_⟩:=this
  have h1:=Array.find?_some he
  have h2:=Array.mem_of_find?_eq_some he
  rw [Array.any_eq_true']
  exact ⟨e,h2,h1⟩
 rw [nsDel_eq ho hd name hs]
 have z:=wpAny_nsDel_keeps (M:=M) (A:=A) (E:=fun o9 o9=>False) (name:=name) (Q:=fun o9 s'=>∃ v,s'.heap.Ns a (fun x=>if x = name then v else m x)∧Heap.SameBut a s.heap s'.heap) hn (fun h' v h1 h2=>⟨v,h1,h2⟩) Γ p hΓ
 rw [nsDel_eq ho hd name hs] at z
 obtain ⟨v,z1,z2⟩:=z
 refine h _ v z1 z2 fun o₁ ho₁=>?_
 rw [ho] at ho₁; (first | exact dNS ho₁ | exact dSN ho₁ | (obtain rfl:=Option.some.inj ho₁) | cases ho₁)
 have q:=Heap.get?_update_self (Obj.dropName name) ho (by
  rw [Obj.dropName_eq]; obtain ⟨c,d,da,sl⟩:=o
  dsimp only at hd; subst hd
  unfold Obj.dropNameByArray
  dsimp only
  cases es.findIdx? _ with
  | none=>rfl
  | some i=>rfl)
 exact ⟨_,q,dropName_cls o⟩
section
variable {n:Nat} {K:Kx} {R:Rsc} {G:Ent} {sc:Scope} {env:Env} {ρ:Rho} {S:R.σ} {Φ:Fz} {s:Shared}
theorem name_goes {A:Around} {x:Str} {pos:Pos} {ρ₀ ρ₁:Rho} {S₀:R.σ} {Φ₀:Fz} {s₀:Shared} {Q:Unit→Shared→Prop} {E:Value→Shared→Prop} (hmine:G.mine x = true) (hx:sc.names.lookup x = some .local) (y:AfterS K R G sc env ρ₀ S₀ Φ₀ s₀ ρ S Φ s) (hs:Sub ρ₁ ρ) (hn:ρ₁.lookup x = none)
  (h:∀ s',AfterS K R G sc env ρ₀ S₀ Φ₀ s₀ ρ₁ S Φ s'→(∀ a ds,Owns Φ s.heap a ds→Owns Φ s'.heap a ds)→Q () s') :
  wpAny K.M A (do bindName env x .none; unbindBehindTheSuite env x pos) Q E s:=by
 refine wpAny_bind (wpAny_bindName (stored (v:=.none) y.inv (.inl hx) hmine fun s₁ X=>?_))
 have z:=y.trans (X.afterVal (d:=.none) y.inv ((by first | exact rfl | exact ⟨_,rfl⟩)))
 have hown:∀ a ds,Owns Φ s.heap a ds→Owns Φ s₁.heap a ds:=X.owns
 have hki:env.kindOf x = some .local:=by unfold Env.kindOf; rw [y.inv.scp]; exact hx
 have hp:(env.scope.kind == .class || (env.scope.kind == .module && env.locals != env.globals)) = false:=by rw [y.inv.scp,y.inv.kind]; rfl
 obtain ⟨m,hn₁⟩:=X.ns
 have hmx:m x = some .none:=by
  rcases X.self with ⟨k,m',n',e⟩ | ⟨k,_⟩ | ⟨k,_⟩
  ·have:=Ns.inj n' hn₁; subst this; exact e
  ·rw [hki] at k; rcases k with q | ⟨q,_⟩ <;> cases q
  ·rw [hki] at k; (first | exact dNS k | exact dSN k | (obtain rfl:=Option.some.inj k) | cases k)
 unfold unbindBehindTheSuite
 refine wpAny_onRaise ?_
 unfold unbindName
 refine wpAny_bind (wpAny_point (wpAny_bind ?_))
 unfold deleteName
 simp only [hki,hp]
 rw [if_neg (by decide)]
 refine wpAny_bind (nsDel_keeps hn₁ hmx fun h' v hn₂ hs₂ hcl=>?_)
 simp only [if_true,Bool.not_true,Bool.false_eq_true,if_false]
 refine wpAny_pure (wpAny_point ?_)
 have I₁:=z.inv
 have hn0:=hn₁
 obtain ⟨oL,esL,epL,hoL,hdL,_⟩:=hn0
 have hn0':=hn₂
 obtain ⟨oL',esL',epL',hoL',hdL',_⟩:=hn0'
 obtain ⟨p1,p2,p3,p4⟩:=I₁.poke (tk:=s₁.toks) hs₂ I₁.nsΦ I₁.nsW I₁.nsG hoL ⟨oL',hoL'⟩ (fun f=>by
   obtain ⟨o2,e2,c2⟩:=hcl oL hoL
   rw [hoL'] at e2; (first | exact dNS e2 | exact dSN e2 | (obtain rfl:=Option.some.inj e2) | cases e2)
   exact ⟨oL',hoL',c2.trans f.1,esL',epL',hdL'⟩)
 have stp:Step (Place env x) Φ s₁ Φ { s₁ with heap:=h' }:=.same (tk:=s₁.toks) hs₂ hoL' p1 (.inl rfl) p4
 have other:∀ y' u,y'≠x→VarIs K env s₁.heap y' u→VarIs K env h' y' u:=fun y' u hy hv=>by
  rcases hv with ⟨k,m',n',e⟩ | ⟨k,c,h1,h2⟩ | hg
  ·have:=Ns.inj n' hn₁; subst this
   exact .inl ⟨k,_,hn₂,by simp [hy,e]⟩
  ·exact .inr (.inl ⟨k,c,h1,h2.sameBut hs₂ (I₁.cell_ne h2)⟩)
  ·exact .inr (.inr hg)
 have own:∀ a ds,Owns Φ s₁.heap a ds→Owns Φ h' a ds:=fun a ds o=>by
  refine o.of_same hs₂ ?_
  obtain ⟨_,oa,vs,k,h1,_,h3,_⟩:=o
  rintro rfl; rw [hoL] at h1; (first | (obtain rfl:=Option.some.inj h1) | cases h1); rw [hdL] at h3; (first | exact dNS h3 | exact dSN h3 | (obtain rfl:=Option.some.inj h3) | cases h3)
 have key:∀ y' sl,ρ₁.lookup y' = some sl→y'≠x∧ρ.lookup y' = some sl∧List.lookup y' ((x,Slot.val D.none) :: ρ) = some sl:=fun y' sl hy=>by
  have q:y'≠x:=fun q=>by rw [q,hn] at hy; (first | exact dNS hy | exact dSN hy | (obtain rfl:=Option.some.inj hy) | cases hy)
  exact ⟨q,hs _ _ hy,by rw [lookup_cons_ne q]; exact hs _ _ hy⟩
 have I₂:Inv K R G sc env ρ₁ S Φ { s₁ with heap:=h' }:=by
  refine ⟨I₁.base,p1,I₁.scp,I₁.kind,I₁.globs,I₁.blts,⟨_,hn₂⟩,I₁.nsΦ,I₁.nsW,I₁.nsG,fun y' c hc=>?_,I₁.celG,I₁.celA,I₁.celD,fun y' d hy=>?_,?_,p2,p3,I₁.fpG,I₁.frs.step stp fun o9 o9 o9 o9 h1 h2=>absurd h2 h1⟩
  ·obtain ⟨⟨v',hv'⟩,q⟩:=I₁.cel y' c hc
   exact ⟨⟨v',hv'.sameBut hs₂ (I₁.cell_ne hv')⟩,q⟩
  ·obtain ⟨q1,q2,q3⟩:=key y' _ hy
   obtain ⟨u,h1,h2⟩:=I₁.vals y' d q3
   exact ⟨u,other y' u q1 h1,h2⟩
  ·obtain ⟨ad,h1,h2⟩:=I₁.owns
   refine ⟨ad,fun y' ds hy=>?_,fun y' z' ds es hy hz hne=>h2 y' z' ds es (key _ _ hy).2.2 (key _ _ hz).2.2 hne⟩
   obtain ⟨q1,q2,q3⟩:=key y' _ hy
   obtain ⟨a1,a2,a3,a4⟩:=h1 y' ds q3
   exact ⟨other _ _ q1 a1,own _ _ a2,a3,a4⟩
 refine h _ ⟨I₂,z.step.trans stp fun a ha=>?_,fun a ⟨y',es,h1,h2⟩=>?_,z.fp⟩ fun a ds o=>own _ _ (hown _ _ o)
 ·rcases ha with h | h
  ·exact .inl (.inl h)
  ·exact .inl (.inr (.inl ⟨x,h⟩))
 ·obtain ⟨q1,q2,q3⟩:=key y' _ h1
  obtain ⟨ad,w,_⟩:=I₁.owns
  obtain ⟨a1,_⟩:=w y' es q3
  have:=VarIs.inj h2 (other _ _ q1 a1)
  (first | (obtain rfl:=Value.ref.inj this) | cases this)
  exact z.own _ ⟨y',es,q3,a1⟩
noncomputable def AsQ (x:Str) (Q:Fl→Rho→R.σ→Prop):Fl→Rho→R.σ→Prop
 | .exc _ _,_,_=>False
 | fl,ρ',S'=>∃ ρ'',Sub ρ'' ρ'∧ρ''.lookup x = none∧Q fl ρ'' S'
theorem wh_as {ρ₀:Rho} {S₀:R.σ} {cls c:Value} {ds:List PyData} {x nm:Str} {np pos:Pos} {b₀:Stmt} {suite:List Stmt} {rest:List ExceptHandler} {Q:Fl→Rho→R.σ→Prop} (hg:K.gl x = some c) (hm:ExmF K cls c true)
  (h:WS 0 K R sc ((nm,.val (.exc cls ds)) :: ρ) S (b₀ :: suite) (AsQ nm Q)) (hk:sc.names.lookup x = some .globalImplicit:=by rfl) (hkn:sc.names.lookup nm = some .local:=by rfl) (hd:(x == ("__debug__":Str)) = false:=by rfl) :
  WH n K R sc ρ₀ S₀ ρ S cls ds (.ExceptHandler (some (.Name x np)) (some nm) (b₀ :: suite) pos :: rest) Q :=
 fun A G env Φ₀ s₀ Φ s ea ok hf I y X=>by
  refine wpAny_handleBy_cons (codeAny_handlers_test (wpAny_Name (loads y.inv (glob_var y.inv.scp hg hk) ((exm y.inv X hm).here ?_)) hd)) (by intro q; cases q)
  refine codeAny_handlers_suite_as (exc_flight y.inv.froz X fun h' st X'=>?_)
  have y':=y.priv I st
  obtain ⟨noΦ,noW,no0,oe,vs,t,he,hc,hdd,h0,hsz,hr,alt⟩:=X'
  have z:=y'.freezeObj I he hdd noΦ noW no0
  have hrep:Rep (Φ.add ea oe) (.exc cls ds) (.ref ea):=⟨ea,oe,vs,t,rfl,Fz.add_self ..,hc,hdd,h0,hr.mono (Fz.le_add noΦ)⟩
  refine stored z.inv (.inl hkn) (hf.mine nm) fun s₂ X₂=>?_
  have z₂:=z.trans (X₂.afterVal z.inv hrep)
  refine wpAny_mono (h (A.mark (some (.ref ea))) G env _ _ (ok.mark _) hf z₂.inv) (fun f s₃ ⟨Φ₃,ρ₃,S₃,fl,w,r,q⟩=>?_) fun e s₂ z=>?_
  ·have w':=z₂.trans w
   have fin:∀ fl',FlRep R S₃ G Φ₃ s₃ f fl'→(∃ ρ'',Sub ρ'' ρ₃∧ρ''.lookup nm = none∧Q fl' ρ'' S₃) →
     wpAny K.M A (do bindName env nm .none; unbindBehindTheSuite env nm pos) (fun o9 s'=>PS K R G sc env ρ₀ S₀ Φ₀ s₀ Q f s') (XP K R G sc env ρ₀ S₀ Φ₀ s₀ false Q) s₃:=by
    rintro fl' r' ⟨ρ'',h1,h2,h3⟩
    refine name_goes (hf.mine nm) hkn w' h1 h2 fun s₄ x₄ own=>⟨Φ₃,ρ'',S₃,fl',x₄,?_,h3⟩
    cases f with
    | next=>cases fl' <;> first | exact r' | exact False.elim r'
    | brk=>cases fl' <;> first | exact r' | exact False.elim r'
    | cont=>cases fl' <;> first | exact r' | exact False.elim r'
    | ret v =>
     cases fl' with
     | ret d=>exact r'
     | retF ds=>obtain ⟨a,e,o,f1,f2⟩:=r'; exact ⟨a,e,own _ _ o,f1,f2⟩
     | _=>exact False.elim r'
   cases fl with
   | exc _ _=>exact q.elim
   | next=>exact fin _ r q
   | brk=>exact fin _ r q
   | cont=>exact fin _ r q
   | ret d=>exact fin _ r q
   | retF d=>exact fin _ r q
  ·obtain ⟨_,_,_,_,_,_,_,_,_,_,_,e4⟩:=z
   exact e4.elim
end
inductive Ky where
 | i (z:Int)
 | t (x:Str)
 deriving DecidableEq
noncomputable def Ky.d:Ky→PyData
 | .i z=>.int z
 | .t x=>.str x
noncomputable def Ky.is:Ky→Value→Bool
 | .i z,v=>v.isInt z
 | .t x,v=>Value.isStrOf x v
theorem Ky.is_shape {k:Ky} {v:Value} (h:k.is v = true):(∃ z t,k = .i z∧v = .int z t)∨(∃ x t,k = .t x∧v = .str x t):=by
 cases k with
 | i z=>obtain ⟨t,rfl⟩:=Value.isInt_shape h; exact .inl ⟨z,t,rfl,rfl⟩
 | t x=>obtain ⟨t,rfl⟩:=Value.isStrOf_shape h; exact .inr ⟨x,t,rfl,rfl⟩
theorem Ky.is_iff {k:Ky} {v:Value} {Φ:Fz}:k.is v = true↔RepP Φ k.d v:=by
 constructor
 ·intro h
  rcases Ky.is_shape h with ⟨z,t,rfl,rfl⟩ | ⟨x,t,rfl,rfl⟩
  ·exact ⟨t,rfl⟩
  ·exact ⟨t,rfl⟩
 ·intro h
  cases k with
  | i z=>obtain ⟨t,rfl⟩:=h; show (Value.int z t).isInt z = true; simp [Value.isInt]
  | t x=>obtain ⟨t,rfl⟩:=h; show Value.isStrOf x (Value.str x t) = true; simp [Value.isStrOf]
theorem Ky.d_inj {a b:Ky} (h:a.d = b.d):a = b:=by
 cases a with
 | i x=>cases b with
  | i y=>exact congrArg Ky.i (PyData.int.inj h)
  | t y=>exact nomatch h
 | t x=>cases b with
  | i y=>exact nomatch h
  | t y=>exact congrArg Ky.t (PyData.str.inj h)
noncomputable def kyKind (prog:Program) (w:World):KeyKind prog w Ky where
 is:=Ky.is
 hash k:=match k with | .i z=>hashInt z | .t x=>hashStr w x
 inj v a b ha hb:=by
  rcases Ky.is_shape ha with ⟨z,t,rfl,rfl⟩ | ⟨x,t,rfl,rfl⟩ <;> rcases Ky.is_shape hb with ⟨z',t',rfl,e⟩ | ⟨x',t',rfl,e⟩ <;> cases e <;> rfl
 byValue k v h:=by rcases Ky.is_shape h with ⟨z,t,rfl,rfl⟩ | ⟨x,t,rfl,rfl⟩ <;> rfl
 pyHash hv h:=by
  rcases Ky.is_shape hv with ⟨z,t,rfl,rfl⟩ | ⟨x,t,rfl,rfl⟩
  ·exact wpAny_pyHash_int h
  ·exact wpAny_pyHash_str h
 eqBool hu hv h:=by
  rcases Ky.is_shape hu with ⟨z,t,rfl,rfl⟩ | ⟨x,t,rfl,rfl⟩ <;> rcases Ky.is_shape hv with ⟨z',t',rfl,rfl⟩ | ⟨x',t',rfl,rfl⟩
  ·refine wpAny_eqBool_int ?_
   have e:decide (Ky.i z = Ky.i z') = (z == z'):=by
    by_cases q:z = z' <;> simp [q]
   rw [← e]; exact h
  ·exact SeqAt.EqAt.int_str z t x' t' _ _ _ _ (by simpa using h)
  ·exact SeqAt.EqAt.str_int x t z' t' _ _ _ _ (by simpa using h)
  ·exact wpAny_eqBool_str (by simpa using h)
 «strs»:=fun k x t v h=>by
  rcases Ky.is_shape h with ⟨z,t',rfl,e⟩ | ⟨x',t',rfl,e⟩
  ·cases e
  ·cases e
   show Value.isStrOf x v = v.isStr x
   cases v <;> rfl
inductive Cell where
 | inst (C da:Addr) (slots:List D)
 | attrs (l:List (Str×D))
 | lst (l:List D)
 | map (l:List (Ky×D))
 | set (l:List Ky)
 | raw (o:Obj)
noncomputable def Cell.dictish:Cell→Bool
 | .map _=>true
 | .raw o=>o.cls == .type "dict"
 | _=>false
noncomputable def SlotsRep (Φ:Fz):List D→List (Option Value)→Prop
 | [],vs=>vs = []
 | d :: l,vs=>∃ v r,vs = some v :: r∧Rep Φ d v∧SlotsRep Φ l r
noncomputable def AttrsRep (w:World) (Φ:Fz):List (Str×D)→List DictEntry→Prop
 | [],es=>es = []
 | (x,d) :: l,es=>∃ t v r,es = ⟨PyData.keyHash w.params x,.str x t,v⟩ :: r∧Rep Φ d v∧AttrsRep w Φ l r
noncomputable def PairsRep (Φ:Fz):List (Ky×D)→List (Ky×Value)→Prop
 | [],vs=>vs = []
 | (k,d) :: l,vs=>∃ v r,vs = (k,v) :: r∧Rep Φ d v∧PairsRep Φ l r
noncomputable def CellOk (K:Kx) (Φ:Fz) (o:Obj):Cell→Prop
 | .inst C da slots=>∃ sl,o = { cls:=.ref C,dict:=some da,data:=.plain,slots:=sl }∧SlotsRep Φ slots sl.toList
 | .attrs l=>∃ es ep,o = { cls:=.type "dict",data:=.dict es ep }∧AttrsRep K.w Φ l es.toList∧l.length≤100∧(l.map (·.1)).Nodup
 | .lst l=>∃ vs n,PL o∧o.data = .seq vs n∧RepDs Φ l vs.toList
 | .map l=>∃ kvs,o.IsDictOf (kyKind K.prog K.w) kvs∧PairsRep Φ l kvs
 | .set l=>∃ es ep t,o.ExactSet∧o.data = .set es ep t∧ElemsOf (kyKind K.prog K.w) es.toList∧(∀ k,k∈l↔∃ e∈es.toList,(kyKind K.prog K.w).is k e.2 = true)∧es.size < scanBound∧t.fits es.size = true∧es.size = l.length
 | .raw o'=>o = o'∧o.cls≠.type "frame"
theorem SlotsRep.mono {Φ Φ':Fz} (le:Le Φ Φ'):∀ {l:List D} {vs:List (Option Value)},SlotsRep Φ l vs→SlotsRep Φ' l vs
 | [],_,h=>h
 | d :: l,_,⟨v,r,e,h1,h2⟩=>⟨v,r,e,h1.mono le,h2.mono le⟩
theorem AttrsRep.mono {w:World} {Φ Φ':Fz} (le:Le Φ Φ'):∀ {l:List (Str×D)} {vs:List DictEntry},AttrsRep w Φ l vs→AttrsRep w Φ' l vs
 | [],_,h=>h
 | (x,d) :: l,_,⟨t,v,r,e,h1,h2⟩=>⟨t,v,r,e,h1.mono le,h2.mono le⟩
theorem PairsRep.mono {Φ Φ':Fz} (le:Le Φ Φ'):∀ {l:List (Ky×D)} {vs:List (Ky×Value)},PairsRep Φ l vs→PairsRep Φ' l vs
 | [],_,h=>h
 | (x,d) :: l,_,⟨v,r,e,h1,h2⟩=>⟨v,r,e,h1.mono le,h2.mono le⟩
theorem RepDs.mono' {Φ Φ':Fz} (le:Le Φ Φ') {l:List D}:∀ {vs:List Value},RepDs Φ l vs→RepDs Φ' l vs:=by
 induction l with
 | nil =>
  rintro o9 h
  exact h
 | cons d l ih =>
  rintro o9 ⟨v,r,e,h1,h2⟩
  exact ⟨v,r,e,h1.mono le,ih h2⟩
theorem CellOk.mono {K:Kx} {Φ Φ':Fz} (le:Le Φ Φ') {o:Obj}:∀ {c:Cell},CellOk K Φ o c→CellOk K Φ' o c
 | .inst C da slots,⟨sl,h1,h2⟩=>⟨sl,h1,h2.mono le⟩
 | .attrs l,⟨es,ep,h1,h2,h3⟩=>⟨es,ep,h1,h2.mono le,h3⟩
 | .lst l,⟨vs,n,h1,h2,h3⟩=>⟨vs,n,h1,h2,RepDs.mono' le h3⟩
 | .map l,⟨kvs,h1,h2⟩=>⟨kvs,h1,h2.mono le⟩
 | .set l,h=>h
 | .raw o',h=>h
theorem CellOk.nofr {K:Kx} {Φ:Fz} {o:Obj}:∀ {c:Cell},CellOk K Φ o c→o.cls≠.type "frame"
 | .inst C da slots,⟨sl,h1,h2⟩=>by subst h1; simp
 | .attrs l,⟨es,ep,h1,h2,h3⟩=>by subst h1; simp
 | .lst l,⟨vs,n,h1,h2,h3⟩=>by rw [h1.1]; simp
 | .map l,⟨kvs,⟨es,ep,h1,_⟩,h2⟩=>by rw [h1.1]; simp
 | .set l,⟨es,ep,t,h1,_⟩=>by rw [h1.1]; simp
 | .raw o',h=>h.2
abbrev Cs:=Addr→Option Cell
noncomputable def Cs.put (S:Cs) (a:Addr) (c:Cell):Cs:=fun b=>if b = a then some c else S b
theorem Cs.put_self (S:Cs) (a:Addr) (c:Cell):(S.put a c) a = some c:=by simp [Cs.put]
theorem Cs.put_ne (S:Cs) {a b:Addr} (c:Cell) (h:b≠a):(S.put a c) b = S b:=by simp [Cs.put,h]
noncomputable def CR (K:Kx):Rsc where
 σ:=Cs
 fp S a:=S a≠none
 ok S Φ h:=∀ a c,S a = some c→Φ a = none∧(∃ o,h.get? a = some o∧CellOk K Φ o c)∧(c.dictish = true→a≠sysModules)
 stable hok hk le hn a c hc:=by
  obtain ⟨h1,⟨o,h2,h3⟩,h4⟩:=hok a c hc
  exact ⟨hn a (by rw [hc]; exact fun z=>by cases z),⟨o,hk a o h2 (by rw [hc]; exact fun z=>by cases z),h3.mono le⟩,h4⟩
 there hok hf:=by
  obtain ⟨c,hc⟩:=Option.ne_none_iff_exists'.mp hf
  obtain ⟨h1,⟨o,h2,h3⟩,_⟩:=hok _ c hc
  exact ⟨h1,o,h2,h3.nofr⟩
section
variable {n:Nat} {K:Kx} {G:Ent} {sc:Scope} {env:Env} {ρ:Rho} {S:Cs} {Φ:Fz} {s:Shared}
theorem cell_at (I:Inv K (CR K) G sc env ρ S Φ s) {a:Addr} {c:Cell} (h:S a = some c):∃ o,s.heap.get? a = some o∧CellOk K Φ o c:=(I.rsc a c h).2.1
theorem cell_no (I:Inv K (CR K) G sc env ρ S Φ s) {a:Addr} {c:Cell} (h:S a = some c):Φ a = none:=(I.rsc a c h).1
theorem cell_put (I:Inv K (CR K) G sc env ρ S Φ s) {a:Addr} {c c':Cell} {o':Obj} {h':Heap} {tk:Nat} (h:S a = some c) (hs:∀ b o,b≠a→s.heap.get? b = some o→h'.get? b = some o) (ho:h'.get? a = some o') (hok:CellOk K Φ o' c') (hdi:c'.dictish = true→a≠sysModules) :
  After K (CR K) G sc env ρ S Φ s (S.put a c') Φ { s with heap:=h',toks:=tk }:=by
 have hf:(CR K).fp S a:=fun z=>by rw [h] at z; (first | exact dNS z | exact dSN z | (obtain rfl:=Option.some.inj z) | cases z)
 obtain ⟨oa,hoa,hca⟩:=cell_at I h
 have fz:∀ b o,Φ b = some o→h'.get? b = some o:=fun b o e=>hs b o (fun q=>by rw [q,cell_no I h] at e; (first | exact dNS e | exact dSN e | (obtain rfl:=Option.some.inj e) | cases e)) (I.froz b o e)
 have st:Step ((CR K).fp S) Φ s Φ { s with heap:=h',toks:=tk }:=⟨rfl,rfl,fun b o e=>by
   by_cases q:b = a
   ·subst q; exact ⟨o',ho,fun z=>absurd hf z⟩
   ·exact ⟨o,hs b o q e,fun o9=>.inl rfl⟩,Le.refl _,fun o9 e z=>absurd e z,fz,fun b o e f=>by
   have q:b≠a:=fun q=>by rw [q,hoa] at e; (first | (obtain rfl:=Option.some.inj e) | cases e); exact hca.nofr f.1
   exact ⟨o,hs b o q e,f⟩⟩
 have fpl:FpLe (CR K) S s (S.put a c'):=fun b hb=>by
  by_cases q:b = a
  ·subst q; exact .inl hf
  ·exact .inl (by have:=hb; show S b≠none; rw [← Cs.put_ne S c' q]; exact this)
 refine ⟨I.step st fpl fun b cb hb=>?_,st,fpl⟩
 by_cases q:b = a
 ·subst q; rw [Cs.put_self] at hb; (first | (obtain rfl:=Option.some.inj hb) | cases hb); exact ⟨cell_no I h,⟨o',ho,hok⟩,hdi⟩
 ·rw [Cs.put_ne S c' q] at hb
  obtain ⟨h1,⟨o,h2,h3⟩,h4⟩:=I.rsc b cb hb
  exact ⟨h1,⟨o,hs b o q h2,h3⟩,h4⟩
theorem cell_new (I:Inv K (CR K) G sc env ρ S Φ s) {a:Addr} {c:Cell} {o:Obj} {h':Heap} {tk:Nat} (hn:s.heap.get? a = none) (hs:∀ b o,s.heap.get? b = some o→h'.get? b = some o) (ho:h'.get? a = some o) (hok:CellOk K Φ o c) (hdi:c.dictish = true→a≠sysModules) :
  After K (CR K) G sc env ρ S Φ s (S.put a c) Φ { s with heap:=h',toks:=tk }:=by
 have st:Step NoW Φ s Φ { s with heap:=h',toks:=tk }:=Step.of_keeps (dr:=s.drawn) I.froz hs
 have st':Step ((CR K).fp S) Φ s Φ { s with heap:=h',toks:=tk }:=st.weaken fun o9 h=>h.elim
 have fpl:FpLe (CR K) S s (S.put a c):=fun b hb=>by
  by_cases q:b = a
  ·subst q; exact .inr hn
  ·exact .inl (by have:=hb; show S b≠none; rw [← Cs.put_ne S c q]; exact this)
 refine ⟨I.step st' fpl fun b cb hb=>?_,st',fpl⟩
 by_cases q:b = a
 ·subst q; rw [Cs.put_self] at hb; (first | exact dNS hb | exact dSN hb | (obtain rfl:=Option.some.inj hb) | cases hb)
  refine ⟨?_,⟨o,ho,hok⟩,hdi⟩
  cases z:Φ b with
  | none=>rfl
  | some ob=>rw [I.froz b ob z] at hn; (first | exact dNS hn | exact dSN hn | (obtain rfl:=Option.some.inj hn) | cases hn)
 ·rw [Cs.put_ne S c q] at hb
  obtain ⟨h1,⟨o,h2,h3⟩,h4⟩:=I.rsc b cb hb
  exact ⟨h1,⟨o,hs b o h2,h3⟩,h4⟩
theorem size_ne (I:Inv K (CR K) G sc env ρ S Φ s):s.heap.objs.size≠sysModules:=by
 obtain ⟨o,_,_,ho,_⟩:=K.gB
 have:=Heap.lt_size (I.froz _ _ (I.base _ _ ho))
 intro e; rw [e] at this; exact absurd this (by decide)
end
theorem isStr_eq {x y:Str} {t:Tok}:(Value.str y t).isStr x = decide (y = x):=by
 unfold Value.isStr; by_cases h:y = x <;> simp [h]
theorem isStr_pos {x:Str} {t:Tok}:(Value.str x t).isStr x = true:=isStr_eq.trans (decide_eq_true rfl)
theorem isStr_neg {x y:Str} {t:Tok} (h:y≠x):(Value.str y t).isStr x = false:=isStr_eq.trans (decide_eq_false h)
theorem AttrsRep.find {w:World} {Φ:Fz} {l:List (Str×D)}:∀ {es:List DictEntry} {x:Str} {d:D},AttrsRep w Φ l es→l.lookup x = some d→∃ e,es.find? (·.key.isStr x) = some e∧Rep Φ d e.val:=by
 induction l with
 | nil=>exact fun o9 h=>dNS h
 | cons y l ih =>
  intro es x d h hl
  obtain ⟨t,v,r,rfl,h1,h2⟩:=h
  rw [List.find?_cons]
  rcases lookup_cases hl with ⟨rfl,rfl⟩ | ⟨q,hl⟩
  ·exact ⟨_,by rw [isStr_pos],h1⟩
  ·rw [isStr_neg (Ne.symm q)]; exact ih h2 hl
theorem AttrsRep.noRef {w:World} {Φ:Fz} {l:List (Str×D)}:∀ {es:List DictEntry},AttrsRep w Φ l es→∀ e∈es,∃ x t,e.key = .str x t:=by
 induction l with
 | nil =>
  rintro o9 h e he
  cases h; cases he
 | cons hdz l ih =>
  obtain ⟨y,d'⟩:=hdz
  rintro o9 ⟨t,v,r,rfl,h1,h2⟩ e he
  rcases List.mem_cons.mp he with rfl | he
  ·exact ⟨y,t,rfl⟩
  ·exact ih h2 e he
theorem AttrsRep.length {w:World} {Φ:Fz} {l:List (Str×D)}:∀ {es:List DictEntry},AttrsRep w Φ l es→es.length = l.length:=by
 induction l with
 | nil =>
  rintro o9 h
  cases h; rfl
 | cons hdz l ih =>
  obtain ⟨y,d'⟩:=hdz
  rintro o9 ⟨t,v,r,rfl,h1,h2⟩
  simp [ih h2]
noncomputable def setA:List (Str×D)→Str→D→List (Str×D)
 | [],x,d=>[(x,d)]
 | (y,e) :: l,x,d=>if y = x then (x,d) :: l else (y,e) :: setA l x d
noncomputable def D.notFn:D→Bool
 | .fn _=>false
 | _=>true
theorem rep_handed {Φ:Fz} {d:D} {v:Value} (h:Rep Φ d v) (hf:d.notFn = true):handedIn v = true:=by
 cases d with
 | py d =>
  cases d with
  | none=>cases (show v = _ from h); rfl
  | bool b=>cases (show v = _ from h); rfl
  | int i=>obtain ⟨t,rfl⟩:=h; rfl
  | str x=>obtain ⟨t,rfl⟩:=h; rfl
  | tuple l=>obtain ⟨a,_,_,_,rfl,_⟩:=h; rfl
  | list l=>obtain ⟨a,_,_,_,rfl,_⟩:=h; rfl
  | dict l=>exact (show False from h).elim
 | ref a=>cases (show v = _ from h); rfl
 | rng _ _ _=>obtain ⟨r,_,_,_,h,_⟩:=h; subst h; rfl
 | exc _ _=>obtain ⟨a,_,_,_,h,_⟩:=h; subst h; rfl
 | fn _=>exact (Bool.false_ne_true hf).elim
structure ClsF (K:Kx) (C:Addr):Prop where
 ga:findIn K.kf (.ref C) "__getattribute__" = some (some (.builtin "object.__getattribute__"))
 sa:findIn K.kf (.ref C) "__setattr__" = some (some (.builtin "object.__setattr__"))
 ge:findIn K.kf (.ref C) "__getattr__" = some none
 po:plainOver K.kf C = true
section
variable {n:Nat} {K:Kx} {G:Ent} {sc:Scope} {env:Env} {ρ:Rho} {S:Cs} {Φ:Fz} {s:Shared}
theorem inst_at (I:Inv K (CR K) G sc env ρ S Φ s) {a C da:Addr} {sl:List D} {l:List (Str×D)} (h:S a = some (.inst C da sl)) (hd:S da = some (.attrs l)) :
  ∃ ox od,InstAt s.heap a ox C (some od)∧CellOk K Φ ox (.inst C da sl)∧CellOk K Φ od (.attrs l)∧s.heap.get? da = some od∧ox.dict = some da:=by
 obtain ⟨ox,h1,h2⟩:=cell_at I h
 obtain ⟨od,h3,h4⟩:=cell_at I hd
 obtain ⟨sl',e,h5⟩:=id h2
 refine ⟨ox,od,⟨h1,by rw [e],by rw [e]; rfl,?_⟩,h2,h4,h3,by rw [e]⟩
 rw [e]; exact h3
theorem lookIn_attrs {od:Obj} {l:List (Str×D)} {x:Str} {d:D} (h:CellOk K Φ od (.attrs l)) (hl:l.lookup x = some d):∃ v,lookIn x od = some (some v)∧Rep Φ d v:=by
 obtain ⟨es,ep,rfl,h2,_⟩:=h
 obtain ⟨e,he,hr⟩:=h2.find hl
 refine ⟨e.val,?_,hr⟩
 unfold lookIn
 simp only [he]
theorem cell_getattr {A:Around} {E:Value→Shared→Prop} {Q:Value→Shared→Prop} {a C da:Addr} {sl:List D} {l:List (Str×D)} {name:Str} {d:D} {expr:Bool} (I:Inv K (CR K) G sc env ρ S Φ s) (hC:ClsF K C) (h:S a = some (.inst C da sl)) (hd:S da = some (.attrs l)) (hl:l.lookup name = some d)
  (hn:findIn K.kf (.ref C) name = some none) (hh:(clsIn K.kf C).any (·.hasDict) = true) (hnf:d.notFn = true) (hq:∀ v,Rep Φ d v→Q v { s with toks:=s.toks + 1 }):wpAny K.M A (getAttr (.ref a) name expr) Q E s:=by
 obtain ⟨ox,od,hI,c1,c2,h1,h2⟩:=inst_at I h hd
 obtain ⟨v,hv,hr⟩:=lookIn_attrs c2 hl
 obtain ⟨cd,hc,hdd⟩:=any_some hh
 refine get_value I.kf hI hC.ga ?_ (rep_handed hr hnf) (hq v hr)
 unfold findObj
 rw [hc,Option.bind_some,hn,Option.bind_some]
 dsimp only [Option.bind_some]
 unfold PySem.W.ownOf
 rw [if_pos hdd]
 dsimp only
 rw [hv]
 rfl
structure SlotF (K:Kx) (C:Addr) (name:Str) (p:Addr) (i:Nat):Prop where
 at_:findIn K.kf (.ref C) name = some (some (.ref p))
 get:specialIn K.kf (.ref p) "__get__" = some (some (.builtin "member_descriptor.__get__"))
 takes:takesIn K.kf (.ref p) = some true
 ix:slotIn K.kf p C = some i
 ty:typeIn K.kf (.ref p) = some (.type "member_descriptor")
theorem SlotsRep.get {Φ:Fz} {l:List D}:∀ {vs:List (Option Value)} {i:Nat} {d:D},SlotsRep Φ l vs→l[i]? = some d→∃ v,vs[i]? = some (some v)∧Rep Φ d v:=by
 induction l with
 | nil =>
  rintro o9 o9 o9 o9 h
  simp at h
 | cons d' l ih =>
  rintro o9 i d ⟨v,r,rfl,h1,h2⟩ h
  cases i with
  | zero=>simp at h; subst h; exact ⟨v,rfl,h1⟩
  | succ i=>simpa using ih h2 (by simpa using h)
theorem SlotsRep.length {Φ:Fz} {l:List D}:∀ {vs:List (Option Value)},SlotsRep Φ l vs→vs.length = l.length:=by
 induction l with
 | nil =>
  rintro o9 h
  cases h; rfl
 | cons d' l ih =>
  rintro o9 ⟨v,r,rfl,h1,h2⟩
  simp [ih h2]
theorem SlotsRep.set {Φ:Fz} {l:List D}:∀ {vs:List (Option Value)} {i:Nat} {d:D} {v:Value},SlotsRep Φ l vs→Rep Φ d v→SlotsRep Φ (l.set i d) (vs.set i (some v)):=by
 induction l with
 | nil =>
  intro vs i d v h o9
  cases (show vs = [] from h); exact rfl
 | cons d' l ih =>
  rintro o9 i d v ⟨v',r,rfl,h1,h2⟩ h
  cases i with
  | zero=>exact ⟨v,r,rfl,h,h2⟩
  | succ i=>exact ⟨v',_,rfl,h1,ih h2 h⟩
theorem SlotsRep.push {Φ:Fz} {l:List D}:∀ {vs:List (Option Value)} {d:D} {v:Value},SlotsRep Φ l vs→Rep Φ d v→SlotsRep Φ (l ++ [d]) (vs ++ [some v]):=by
 induction l with
 | nil =>
  rintro o9 d v h hr
  cases h; exact ⟨v,[],rfl,hr,rfl⟩
 | cons d' l ih =>
  rintro o9 d v ⟨v',r,rfl,h1,h2⟩ h
  exact ⟨v',_,rfl,h1,ih h2 h⟩
theorem cell_getslot {A:Around} {E:Value→Shared→Prop} {Q:Value→Shared→Prop} {a C da p:Addr} {sl:List D} {l:List (Str×D)} {name:Str} {d:D} {i:Nat} {expr:Bool} (I:Inv K (CR K) G sc env ρ S Φ s) (hC:ClsF K C) (hS:SlotF K C name p i) (h:S a = some (.inst C da sl)) (hd:S da = some (.attrs l)) (hl:sl[i]? = some d)
  (hnf:d.notFn = true) (hq:∀ v,Rep Φ d v→Q v { s with toks:=s.toks + 1 }):wpAny K.M A (getAttr (.ref a) name expr) Q E s:=by
 obtain ⟨ox,od,hI,⟨sl',e1,h5⟩,c2,h1,h2⟩:=inst_at I h hd
 obtain ⟨v,hv,hr⟩:=h5.get hl
 have hcd:∃ cd,clsIn K.kf C = some cd:=by
  have:=hC.po; unfold plainOver at this; obtain ⟨cd,e,_⟩:=any_some this; exact ⟨cd,e⟩
 obtain ⟨cd,hcd⟩:=hcd
 refine get_bind I.kf hI hC.ga (g:=.builtin "member_descriptor.__get__") (a:=.ref p) ?_ hC.ge ?_
 ·unfold findObj
  rw [hcd,Option.bind_some,hS.at_,Option.bind_some]
  dsimp only [Option.bind_some]
  rw [hS.get]
  dsimp only [Option.bind_some]
  rw [hS.takes]
  rfl
 ·refine wpAny_call (slot_get (s:={ s with toks:=s.toks + 1 }) I.kf ⟨hI.at_,hI.cls,hI.no,hI.dict⟩ hS.ix (v:=v) ?_ ?_)
  ·rw [e1]
   show (sl'[i]?).join = some v
   rw [← Array.getElem?_toList,hv]; rfl
  ·show wpAny _ _ (handedOut v) _ _ _
   rw [handedOut_of (rep_handed hr hnf)]; exact wpAny_pure (hq v hr)
end
section
open PySem PySem.W PyProof.Rows PySem.Calls PySem.Builtin PySem.Builtin.ObjectAttr PySem.Builtin.Getset_descriptor
theorem setA_cons {y x:Str} {e d:D} {l:List (Str×D)}:setA ((y,e) :: l) x d = if y = x then (x,d) :: l else (y,e) :: setA l x d:=rfl
theorem AttrsRep.store {w:World} {Φ:Fz} {name:Str} {d:D} {v:Value} {t:Tok} (hr:Rep Φ d v) {l:List (Str×D)}:∀ {es:List DictEntry},AttrsRep w Φ l es →
  (∀ i,es.findIdx? (·.key.isStr name) = some i→AttrsRep w Φ (setA l name d) (es.modify i fun e=>{ e with val:=v }))∧(es.findIdx? (·.key.isStr name) = none→AttrsRep w Φ (setA l name d) (es ++ [⟨PyData.keyHash w.params name,.str name t,v⟩])):=by
 induction l with
 | nil =>
  rintro o9 h
  cases h
  exact ⟨fun i e=>(by cases e),fun o9=>⟨t,v,[],rfl,hr,rfl⟩⟩
 | cons hdz l ih =>
  obtain ⟨y,d'⟩:=hdz
  rintro o9 ⟨t',v',r,rfl,h1,h2⟩
  obtain ⟨i1,i2⟩:=ih h2
  rw [List.findIdx?_cons]
  simp only [isStr_eq,decide_eq_true_eq]
  by_cases q:y = name
  ·subst q
   refine ⟨fun i e=>?_,fun e=>?_⟩
   ·simp at e; subst e
    rw [setA_cons,if_pos rfl]
    exact ⟨t',v,r,rfl,hr,h2⟩
   ·simp at e
  ·simp only [q,if_false,setA_cons]
   refine ⟨fun i e=>?_,fun e=>?_⟩
   ·rw [Option.map_eq_some_iff] at e
    obtain ⟨j,hj,rfl⟩:=e
    exact ⟨t',v',_,rfl,h1,i1 j hj⟩
   ·rw [Option.map_eq_none_iff] at e
    exact ⟨t',v',_,rfl,h1,i2 e⟩
theorem setA_names {name:Str} {d:D} {l:List (Str×D)}:(setA l name d).map (·.1) = if name∈l.map (·.1) then l.map (·.1) else l.map (·.1) ++ [name]:=by
 induction l with
 | nil=>exact (if_neg List.not_mem_nil).symm
 | cons hdz l ih =>
  obtain ⟨y,e⟩:=hdz
  rw [setA_cons]
  by_cases q:y = name
  ·subst q; simp
  ·have q':¬ name = y:=fun z=>q z.symm
   simp only [q,if_false,List.map_cons,ih,List.mem_cons,q',false_or]
   split <;> simp
set_option tactic.hygienic true in
theorem setA_ok {name:Str} {d:D} {l:List (Str×D)} (hl:l.length < 100) (hn:(l.map (·.1)).Nodup):(setA l name d).length≤100∧((setA l name d).map (·.1)).Nodup:=by
 have e:=setA_names (name:=name) (d:=d) (l:=l)
 have e2:(setA l name d).length = ((setA l name d).map (·.1)).length:=by simp
 rw [e2,e]
 split
 ·exact ⟨by simp; dict_keeps,hn⟩
 ·rename_i q
  exact ⟨by simp; dict_keeps,List.nodup_append.mpr ⟨hn,by simp,fun a ha b hb=>by simp at hb; subst hb; exact fun z=>q (z ▸ ha)⟩⟩
section
variable {n:Nat} {K:Kx} {G:Ent} {sc:Scope} {env:Env} {ρ:Rho} {S:Cs} {Φ:Fz} {s:Shared}
theorem attrs_put {l:List (Str×D)} {name:Str} {d:D} {v:Value} {t:Tok} {od:Obj} (hr:Rep Φ d v) (hl:l.length < 100) (h:CellOk K Φ od (.attrs l)) :
  CellOk K Φ (Obj.putName name (PyData.keyHash K.w.params name) (.str name t) v od) (.attrs (setA l name d))∧(Obj.putName name (PyData.keyHash K.w.params name) (.str name t) v od).isFreed = false ∧
   ∃ es ep,(Obj.putName name (PyData.keyHash K.w.params name) (.str name t) v od).data = .dict es ep∧es.size≤100:=by
 obtain ⟨es,ep,rfl,h2,h3,h4⟩:=h
 obtain ⟨s1,s2⟩:=h2.store (name:=name) (t:=t) hr
 have ok:=setA_ok (name:=name) (d:=d) hl h4
 rw [Obj.putName_eq]
 simp only [Obj.putNameByArray]
 cases q:es.findIdx? (·.key.isStr name) with
 | none =>
  have z:=s2 (by rw [← List.findIdx?_toArray]; exact q)
  have hz:(es.push ⟨PyData.keyHash K.w.params name,.str name t,v⟩).size≤100:=by
   have:=z.length; simp at this; simp; (first | lia | omega)
  exact ⟨⟨_,_,rfl,by simpa using z,ok⟩,rfl,_,_,rfl,hz⟩
 | some i =>
  have z:=s1 i (by rw [← List.findIdx?_toArray]; exact q)
  have hz:(es.modify i fun e=>{ e with val:=v }).size≤100:=by
   have:=h2.length; simp at this; simp; (first | lia | omega)
  exact ⟨⟨_,_,rfl,by simpa using z,ok⟩,rfl,_,_,rfl,hz⟩
theorem cell_setattr {A:Around} {E:Value→Shared→Prop} {Q:Unit→Shared→Prop} {a C da:Addr} {sl:List D} {l:List (Str×D)} {name:Str} {d:D} {v:Value} (I:Inv K (CR K) G sc env ρ S Φ s) (hC:ClsF K C) (h:S a = some (.inst C da sl)) (hd:S da = some (.attrs l)) (hl:l.length < 100)
  (hn:takerIn K.kf C name = some none) (hh:(clsIn K.kf C).any (·.hasDict) = true) (hr:Rep Φ d v) (hq:∀ s',After K (CR K) G sc env ρ S Φ s (S.put da (.attrs (setA l name d))) Φ s'→Q () s'):wpAny K.M A (setAttr (.ref a) name v) Q E s:=by
 obtain ⟨ox,od,hI,⟨slv,e1,h5⟩,c2,h1,h2⟩:=inst_at I h hd
 obtain ⟨p1,p2,es',ep',p3,p4⟩:=attrs_put (name:=name) (t:=s.toks + 1) hr hl c2
 refine set_plain I.kf hI hC.sa (osa_open (s:={ s with toks:=s.toks + 1 }) I.kf ⟨hI.at_,hI.cls,hI.no,hI.dict⟩ hC.po hn fun b=>?_)
 obtain ⟨cd,hc,hd'⟩:=any_some hh
 have hx:=hI.at_
 subst e1
 obtain ⟨es,ep,e3,e4,e5,e6⟩:=c2
 refine wpAny_bind (wpAny_pure (wpAny_bind (wpAny_bind (wpAny_loadPart (s:={ s with toks:=s.toks + 1 }) hx (wpAny_bind ((looks_clsIn (I.kf:K.kf.In s.heap) hc) _ _ _ { s with toks:=s.toks + 1 } (fun o9 o9 e=>e) ?_))))))
 rw [hd']
 refine wpAny_pure (a:=some da) (wpAny_bind (wpAny_pure (wpAny_bind ?_)))
 have hk:StrKeys es:=fun e he=>e4.noRef e (by simpa using he)
 intro Γ p hΓ
 rw [nsSet_eq (s:={ s with toks:=s.toks + 1 }) h1 (by rw [e3]) hk]
 have hg:=Heap.get?_update_self (h:=s.heap) (Obj.putName name (PyData.keyHash K.w.params name) (.str name (s.toks + 1)) v) h1 p2
 refine wpAny_bind (wpAny_lookBehind (s:={ s with heap:=s.heap.update da (Obj.putName name (PyData.keyHash K.w.params name) (.str name (s.toks + 1)) v),toks:=s.toks + 1 + 1 }) hg (by rw [p3]; exact pastItsLine_dict (by rw [sizeLine_eq]; grows_one)) ?_)
 refine wpAny_pure (hq _ ?_)
 exact cell_put I hd (fun b o hb e=>(Heap.get?_update_other _ _ (Ne.symm hb)).trans e) hg p1 fun z=>Bool.noConfusion z
theorem slot_store {A:Around} {R:Result→Shared→Prop} {x C p:Addr} {ox:Obj} {od:Option Obj} {v:Value} {i:Nat} (X:K.kf.In s.heap) (I:InstAt s.heap x ox C od) (hp:slotIn K.kf p C = some i) (hi:i < 1000)
  (h:R (.ok (.ret .none)) { s with heap:=s.heap.update x fun o=>{ o with slots:=(o.slots ++ Array.replicate (i + 1 - o.slots.size) none).setIfInBounds i (some v) } }) :
  codeAny K.M A (.call (.builtin "member_descriptor.__set__") ⟨[.ref p,.ref x,v],[]⟩) R s:=by
 obtain ⟨nm,tn,owner,behind,tb,d,sl,cd,ho,hc,hm,hb,rfl⟩:=slot_of X hp
 have ty:=I.type (M:=K.M)
 have sub:=looks_mroIn (M:=K.M) X hm
 have nms:Looks K.M s.heap (Slots.slotNamesOf (.ref C)) cd.slotNames:=(looks_clsIn X hc).andThen .now
 have at_:=I.at_
 have g0:=looks_field (M:=K.M) ho 0 (v:=.str nm tn) rfl
 have g1:=looks_field (M:=K.M) ho 1 (v:=owner) rfl
 have g3:=looks_field (M:=K.M) ho 3 (v:=.builtin "proto.slot#set") rfl
 have g4:=looks_field (M:=K.M) ho 4 (v:=.int behind tb) rfl
 have self:Looks K.M s.heap (descrItself (.ref p)) [.ref p]:=((Looks.ld (part:=none) ho).andThen .now).andThen (Looks.of_pure (by kernel_rfl))
 refine codeAny_call_builtin KF.slot_mset.plain KF.entry_mset (KF.slot_mset.check _ _ _ _ _ _ _ _ ⟨_,ho,rfl⟩ (KF.args_mset _ _ _) ?_)
 obtain ⟨hh,gs,dr,tk,os⟩:=s
 unfold Builtin.«member_descriptor.__set__» descrSet descrStoreThrough descrCheckInstance descrNameAndClass isInstance
 repeat lk
 refine ⟨Code.quiet_builtin _ (by decide +kernel),codeAny_builtin KF.entry_slotset ?_⟩
 unfold Builtin.«proto.slot#set» Slots.target
 repeat lk
 rw [if_neg hb]
 refine wpAny_pure (wpAny_bind ?_)
 unfold setSlotAt
 dsimp only
 rw [if_neg (by rw [sizeLine_eq]; (first | lia | omega))]
 exact wpAny_updatePart at_ (wpAny_pure h)
noncomputable def setS (sl:List D) (i:Nat) (d:D):List D:=if i < sl.length then sl.set i d else sl ++ [d]
set_option tactic.hygienic true in
theorem cell_setslot {A:Around} {E:Value→Shared→Prop} {Q:Unit→Shared→Prop} {a C da p:Addr} {sl:List D} {l:List (Str×D)} {name:Str} {d:D} {v:Value} {i:Nat} (I:Inv K (CR K) G sc env ρ S Φ s) (hC:ClsF K C) (hS:SlotF K C name p i) (h:S a = some (.inst C da sl)) (hd:S da = some (.attrs l)) (hi:i≤sl.length) (hi':i < 1000)
  (hr:Rep Φ d v) (hq:∀ s',After K (CR K) G sc env ρ S Φ s (S.put a (.inst C da (setS sl i d))) Φ s'→Q () s'):wpAny K.M A (setAttr (.ref a) name v) Q E s:=by
 obtain ⟨ox,od,hI,⟨slv,e1,h5⟩,c2,h1,h2⟩:=inst_at I h hd
 have ht:takerIn K.kf C name = some (some (.ref p)):=by
  unfold takerIn; rw [hS.at_,Option.bind_some]; simp only [hS.takes,Option.map_some,if_true]
 refine set_plain I.kf hI hC.sa (osa_descr (s:={ s with toks:=s.toks + 1 }) KF.slot_mset I.kf ⟨hI.at_,hI.cls,hI.no,hI.dict⟩ hC.po ht hS.ty ?_)
 refine slot_store (s:={ s with toks:=s.toks + 1 }) I.kf (od:=some od) ⟨hI.at_,hI.cls,hI.no,hI.dict⟩ hS.ix hi' (hq _ ?_)
 have at_:=hI.at_
 subst e1
 have len:=h5.length
 have lsz:slv.size = sl.length:=by simpa using len
 have hnew:=Heap.get?_update_self (h:=s.heap) (fun o:Obj=>{ o with slots:=(o.slots ++ Array.replicate (i + 1 - o.slots.size) none).setIfInBounds i (some v) }) at_ rfl
 refine cell_put (tk:=s.toks + 1) I h (fun b o hb e=>(Heap.get?_update_other _ _ (Ne.symm hb)).trans e) hnew ⟨_,rfl,?_⟩ fun z=>Bool.noConfusion z
 unfold setS
 split
 ·rename_i q
  have e:i + 1 - slv.size = 0:=by (first | lia | omega)
  simp only [e,Array.replicate_zero,Array.append_empty,Array.toList_setIfInBounds]
  exact h5.set hr
 ·rename_i q
  have e:i = sl.length:=by (first | lia | omega)
  have e':i + 1 - slv.size = 1:=by (first | lia | omega)
  simp only [e',Array.toList_setIfInBounds,Array.toList_append]
  have:(slv.toList ++ (Array.replicate 1 none).toList).set i (some v) = slv.toList ++ [some v]:=by
   simp only [Array.toList_replicate,List.replicate_one]
   rw [List.set_append_right _ _ (by rw [len]; (first | lia | omega))]
   have:i - slv.toList.length = 0:=by rw [len]; (first | lia | omega)
   rw [this]; rfl
  rw [this]
  exact h5.push hr
end
end
section
variable {n:Nat} {K:Kx} {sc:Scope} {ρ:Rho} {S:Cs}
theorem AttrsRep.miss {w:World} {Φ:Fz} {l:List (Str×D)}:∀ {es:List DictEntry} {x:Str},AttrsRep w Φ l es→l.lookup x = none→es.find? (·.key.isStr x) = none∧es.any (·.refKey) = false:=by
 induction l with
 | nil=>intro es x h o9; cases (show es = [] from h); exact ⟨rfl,rfl⟩
 | cons y l ih =>
  intro es x h hl
  obtain ⟨t,v,r,rfl,h1,h2⟩:=h
  rw [List.find?_cons,List.any_cons]
  by_cases q:x = y.1
  ·rw [q,lookup_cons_self] at hl; exact dSN hl
  ·rw [lookup_cons_ne q] at hl
   obtain ⟨a1,a2⟩:=ih h2 hl
   rw [isStr_neg (Ne.symm q)]
   exact ⟨a1,by rw [a2]; rfl⟩
structure MethF (K:Kx) (C:Addr) (name:Str) (fa:Addr):Prop where
 at_:findIn K.kf (.ref C) name = some (some (.ref fa))
 ty:typeIn K.kf (.ref fa) = some (.type "function")
theorem cell_method {G:Ent} {env:Env} {Φ:Fz} {s:Shared} {A:Around} {E:Value→Shared→Prop} {a C da fa:Addr} {sl:List D} {l:List (Str×D)} {name:Str} {pl:Sem Bool} {Q:Value×List Value→Shared→Prop} (I:Inv K (CR K) G sc env ρ S Φ s) (hC:ClsF K C) (hM:MethF K C name fa)
  (h:S a = some (.inst C da sl)) (hd:S da = some (.attrs l)) (hl:l.lookup name = none) (hq:Q (.ref fa,[.ref a]) s):wpAny K.M A (getMethod (.ref a) name pl) Q E s:=by
 obtain ⟨ox,od,hI,c1,⟨es,ep,e3,e4,_⟩,h1,h2⟩:=inst_at I h hd
 obtain ⟨m1,m2⟩:=e4.miss hl
 refine method_fn I.kf hI hC.ga hC.ge hM.at_ hM.ty ?_ hq
 unfold shadowIn
 subst e3
 simp [lookIn,m1,m2]
noncomputable def retX (Q:D→Cs→Prop) (X:Value→List PyData→Cs→Prop):Ret→Cs→Prop
 | .val d,S'=>Q d S'
 | .new ds,S'=>Q (.lst ds) S'
 | .exc cls ds,S'=>X cls ds S'
theorem ret_data {G:Ent} {env:Env} {Φ Φ':Fz} {s s':Shared} {S':Cs} {v:Value} {r:Ret} {Q:D→Cs→Prop} {X:Value→List PyData→Cs→Prop} (I:Inv K (CR K) G sc env ρ S Φ s) (x:After K (CR K) G sc env ρ S Φ s S' Φ' s') (rep:RetRep (CR K) S' Φ' s s' v r) (q:retX Q X r S') :
  PE K (CR K) G sc env ρ S Φ s Q v s':=by
 cases r with
 | val d=>exact ⟨Φ',S',d,x,rep,q⟩
 | new ds =>
  obtain ⟨a,e,ow,nf,hn⟩:=rep
  subst e
  obtain ⟨hΦ,ob,vs,m,h1,h2,h3,h4⟩:=ow
  refine ⟨_,S',.lst ds,x.freeze I hn h1 hΦ nf,?_,q⟩
  exact ⟨a,ob,vs,m,rfl,Fz.add_self ..,h2,h3,h4.mono (Fz.le_add hΦ)⟩
 | exc _ _=>exact rep.elim
theorem wex_meth {x name:Str} {np ap cp:Pos} {es:List Expr} {a C da fa:Addr} {sl:List D} {l:List (Str×D)} {Q:D→Cs→Prop} {X:Value→List PyData→Cs→Prop} (hx:ρ.lookup x = some (.val (.ref a))) (hC:ClsF K C) (hM:MethF K C name fa) (fn:FnO K fa)
  (ha:S a = some (.inst C da sl)) (hd:S da = some (.attrs l)) (hl:l.lookup name = none)
  (h:WEs n K (CR K) sc ρ S es fun ds S₁=>WCall n K (CR K) S₁ (.ref fa) (.ref a :: ds) (retX Q X))
  (hs:es.any isStarred = false:=by rfl) (hdb:(x == ("__debug__":Str)) = false:=by rfl) (hline:(ap.endLine == cp.line) = true:=by rfl)
  (hfew:∀ env,((backTo cp (starEach es env)).all (fun x=>!x.1) && (backToKw cp (keywordEach [] env)).all (fun x=>x.1.isSome) && decide (es.length + ([]:List Keyword).length + (if ([]:List Keyword).isEmpty then 0 else 1) < 30)) = true:=by intro o9; rfl) :
  WEX n K (CR K) sc ρ S (.Call (.Attribute (.Name x np) name ap) es [] cp) Q X :=
 fun A G env Φ s ok I=>by
  rw [arm_eval_Call]
  have e1:attributeBase (.Name x np) name env (eval (.Name x np) env) = eval (.Name x np) env:=rfl
  rw [e1]
  obtain ⟨v,h1,h2⟩:=I.vals x _ hx
  cases h2
  refine wpAny_bind (wpAny_Name (loads I h1 (wpAny_bind (wpAny_standAt ?_))) hdb)
  unfold methodCall
  have few:methodCallForm (es.length + ([]:List Keyword).length) (backTo cp (starEach es env)) (backToKw cp (keywordEach [] env)) = true:=by
   unfold methodCallForm; exact hfew env
  rw [few]
  refine wpAny_bind (wpAny_holding (cell_method I hC hM ha hd hl ?_))
  have e2:methodCallPos true (.Name x np) env ap cp = pure cp:=by unfold methodCallPos; simp [hline]
  rw [e2]
  refine wpAny_bind (wpAny_pure ?_)
  obtain ⟨o,fd,ho,hdata⟩:=fn
  refine callWith_function (o:=o) (fd:=fd) (evalArgs_any hs (wpAny_mono (h cp A G env Φ s ok I) (fun vs s₁ ⟨Φ₁,S₁,ds,x₁,r,hc⟩=>⟨⟨x₁.inv.fzn.keeps _ _ ho,hdata⟩,?_⟩) fun o9 o9 x=>x.elim))
  refine wpAny_mono (hc.wp A G.fs Φ₁ s₁ (.ref a :: vs) ok.toOkay ok.fr x₁.inv.frs x₁.inv.fzn x₁.inv.rsc ⟨.ref a,vs,rfl,rfl,r⟩) (fun v s' hp0=>?_) fun e s' hp0=>by obtain ⟨ea,Φ',S',cls,ds',tr,h1,st,fpl,rok,h5,h6⟩:=hp0; exact XE.trans x₁ ⟨ea,Φ',S',cls,ds',tr,h1,⟨x₁.inv.step st fpl rok,st,fpl⟩,h5,h6⟩
  obtain ⟨Φ',S',rr,st,fpl,rok,rep,q⟩:=hp0
  have y:After K (CR K) G sc env ρ S₁ Φ₁ s₁ S' Φ' s':=⟨x₁.inv.step st fpl rok,st,fpl⟩
  obtain ⟨Φ₂,S₂,d,z1,z2,z3⟩:=ret_data x₁.inv y rep q
  exact ⟨Φ₂,S₂,d,x₁.trans z1,z2,z3⟩
end
section
variable {n:Nat} {K:Kx} {sc:Scope} {ρ:Rho} {S:Cs}
theorem binds_star {fd:FuncData} {ps:List Str} {va:Str} {ds:List D} {l:List PyData} (hl:ps.length = ds.length) (hsz:l.length≤sizeLine)
  (hbind:∀ vs rest:List Value,vs.length = ps.length→bindArgs fd ⟨vs ++ rest,[]⟩ = (do let t ← newTuple rest; pure (ps.zip vs ++ [(va,t)]))) :
  Binds K fd (ds ++ l.map D.py) (ps.zip ds ++ [(va,.tup l)]):=fun A Φ s vs F hr=>by
 have split:∀ {ds:List D} {es:List D} {vs:List Value},RepDs Φ (ds ++ es) vs→∃ v1 v2,vs = v1 ++ v2∧RepDs Φ ds v1∧RepDs Φ es v2:=by
  intro ds es
  induction ds with
  | nil=>intro vs h; exact ⟨[],vs,rfl,rfl,h⟩
  | cons d ds ih =>
   intro vs h
   obtain ⟨v,r,rfl,h1,h2⟩:=h
   obtain ⟨v1,v2,rfl,h3,h4⟩:=ih h2
   exact ⟨v :: v1,v2,rfl,⟨v,v1,rfl,h1,h3⟩,h4⟩
 obtain ⟨v1,v2,rfl,r1,r2⟩:=split hr
 have r2':=r2.pys
 rw [hbind v1 v2 (by rw [r1.length,hl])]
 refine wpAny_bind (wpAny_newTuple ?_ (by rw [r2'.length]; exact hsz))
 have hn:=heap_size_none s.heap
 have st:=Step.of_keeps_new (Φ:=Φ) (tk:=s.toks) (dr:=s.drawn) F.froz (h':=s.heap.push { cls:=.type "tuple",data:=.seq v2.toArray }) (fun b o e=>Heap.get?_push_of_some _ e) hn (Heap.get?_push_size _ rfl)
 have le:=Fz.le_add (Φ:=Φ) (a:=s.heap.objs.size) (o:={ cls:=.type "tuple",data:=.seq v2.toArray }) (none_of_fresh F.froz hn)
 refine wpAny_pure ⟨_,st,?_⟩
 have app:∀ {l1:List (Str×D)} {b1:List (Str×Value)} {l2:List (Str×D)} {b2:List (Str×Value)} {Ψ:Fz},BindsRep Ψ l1 b1→BindsRep Ψ l2 b2→BindsRep Ψ (l1 ++ l2) (b1 ++ b2):=by
  intro l1
  induction l1 with
  | nil=>intro b1 l2 b2 Ψ h1 h2; cases h1; exact h2
  | cons x l1 ih =>
   intro b1 l2 b2 Ψ h1 h2
   obtain ⟨x,d⟩:=x
   obtain ⟨v,r,rfl,h3,h4⟩:=h1
   exact ⟨v,_,rfl,h3,ih h4 h2⟩
 refine app (RepDs.binds hl (RepDs.mono' le r1)) ⟨_,[],rfl,?_,rfl⟩
 exact ⟨_,_,_,_,rfl,Fz.add_self ..,⟨rfl,rfl,rfl⟩,rfl,by simpa using r2'.mono le⟩
end
section
variable {n:Nat} {K:Kx} {sc:Scope} {ρ:Rho} {S:Cs}
end
section
variable {n:Nat} {K:Kx} {sc:Scope} {ρ:Rho} {S:Cs}
end
section
variable {n:Nat} {K:Kx} {sc:Scope} {ρ:Rho} {S:Cs}
end
inductive GetA (K:Kx) (S:Cs) (a:Addr) (name:Str) (d:D):Prop where
 | dict {C da:Addr} {sl:List D} {l:List (Str×D)} (hC:ClsF K C) (h:S a = some (.inst C da sl)) (hd:S da = some (.attrs l)) (hl:l.lookup name = some d)
   (hn:findIn K.kf (.ref C) name = some none) (hh:(clsIn K.kf C).any (·.hasDict) = true) (hnf:d.notFn = true)
 | slot {C da p:Addr} {sl:List D} {l:List (Str×D)} {i:Nat} (hC:ClsF K C) (hS:SlotF K C name p i) (h:S a = some (.inst C da sl)) (hd:S da = some (.attrs l)) (hl:sl[i]? = some d) (hnf:d.notFn = true)
inductive PutA (K:Kx) (S:Cs) (a:Addr) (name:Str) (d:D):Cs→Prop where
 | dict {C da:Addr} {sl:List D} {l:List (Str×D)} (hC:ClsF K C) (h:S a = some (.inst C da sl)) (hd:S da = some (.attrs l)) (hl:l.length < 100)
   (hn:takerIn K.kf C name = some none) (hh:(clsIn K.kf C).any (·.hasDict) = true):PutA K S a name d (S.put da (.attrs (setA l name d)))
 | slot {C da p:Addr} {sl:List D} {l:List (Str×D)} {i:Nat} (hC:ClsF K C) (hS:SlotF K C name p i) (h:S a = some (.inst C da sl)) (hd:S da = some (.attrs l)) (hi:i≤sl.length) (hi':i < 1000):PutA K S a name d (S.put a (.inst C da (setS sl i d)))
section
variable {n:Nat} {K:Kx} {sc:Scope} {ρ:Rho} {S:Cs}
theorem GetA.wp {G:Ent} {env:Env} {Φ:Fz} {s:Shared} {A:Around} {E:Value→Shared→Prop} {Q:Value→Shared→Prop} {a:Addr} {name:Str} {d:D} {expr:Bool} (g:GetA K S a name d) (I:Inv K (CR K) G sc env ρ S Φ s) (hq:∀ v,Rep Φ d v→Q v { s with toks:=s.toks + 1 }) :
  wpAny K.M A (getAttr (.ref a) name expr) Q E s:=by
 cases g with
 | dict hC h hd hl hn hh hnf=>exact cell_getattr I hC h hd hl hn hh hnf hq
 | slot hC hS h hd hl hnf=>exact cell_getslot I hC hS h hd hl hnf hq
theorem PutA.wp {G:Ent} {env:Env} {Φ:Fz} {s:Shared} {A:Around} {E:Value→Shared→Prop} {Q:Unit→Shared→Prop} {a:Addr} {name:Str} {d:D} {v:Value} {S':Cs} (g:PutA K S a name d S') (I:Inv K (CR K) G sc env ρ S Φ s) (hr:Rep Φ d v) (hq:∀ s',After K (CR K) G sc env ρ S Φ s S' Φ s'→Q () s') :
  wpAny K.M A (setAttr (.ref a) name v) Q E s:=by
 cases g with
 | dict hC h hd hl hn hh=>exact cell_setattr I hC h hd hl hn hh hr hq
 | slot hC hS h hd hi hi'=>exact cell_setslot I hC hS h hd hi hi' hr hq
theorem var_ref {G:Ent} {env:Env} {Φ:Fz} {s:Shared} {x:Str} {a:Addr} (I:Inv K (CR K) G sc env ρ S Φ s) (hx:ρ.lookup x = some (.val (.ref a))):VarIs K env s.heap x (.ref a):=by
 obtain ⟨v,h1,h2⟩:=I.vals x _ hx
 cases h2; exact h1
theorem we_attr {x attr:Str} {np pos:Pos} {a:Addr} {d:D} {Q:D→Cs→Prop} (hx:ρ.lookup x = some (.val (.ref a))) (g:GetA K S a attr d) (q:Q d S) (hd:(x == ("__debug__":Str)) = false:=by rfl):WE n K (CR K) sc ρ S (.Attribute (.Name x np) attr pos) Q :=
 fun A G env Φ s ok I=>Attribute_name (wpAny_Name (loads I (var_ref I hx) (g.wp I fun v hr=>⟨Φ,S,d,.start I (.tok I.froz),hr,q⟩)) hd)
theorem wx_setattr {x attr:Str} {np p pos:Pos} {e:Expr} {a:Addr} {Q:Fl→Rho→Cs→Prop} (hx:ρ.lookup x = some (.val (.ref a)))
  (h:WE n K (CR K) sc ρ S e fun d S₁=>Of (PutA K S₁ a attr d) (fun S₂ (_:Unit)=>Q .next ρ S₂) ()) (hd:(x == ("__debug__":Str)) = false:=by rfl) (hs:∀ env,swapsWith e (some (.Attribute (.Name x np) attr p)) pos.line env = pure false:=by intro o9; rfl) :
  WX n K (CR K) sc ρ S (.Assign [.Attribute (.Name x np) attr p] e pos) Q :=
 fun A G env Φ s ok hm I=>plainObj_wpAny_Assign_Attribute (wpAny_mono (h A G env Φ s ok I) (fun v s₁ ⟨Φ₁,S₁,d,y,r,S₂,g,q⟩ =>
  wpAny_Name (loads y.inv (var_ref y.inv hx) (g.wp y.inv r fun s₂ z=>⟨Φ₁,ρ,S₂,.next,After.stmt I (y.trans z),trivial,q⟩)) hd) fun o9 o9 x=>x.elim) (hs env)
theorem wx_iaddattr {x attr:Str} {np p pos:Pos} {e:Expr} {a:Addr} {i:Int} {Q:Fl→Rho→Cs→Prop} (hx:ρ.lookup x = some (.val (.ref a))) (g:GetA K S a attr (.int i))
  (h:WE n K (CR K) sc ρ S e fun d S₁=>∃ j S₂,d = .int j∧PutA K S₁ a attr (.int (i + j)) S₂∧Q .next ρ S₂) (hd:(x == ("__debug__":Str)) = false:=by rfl) :
  WX n K (CR K) sc ρ S (.AugAssign (.Attribute (.Name x np) attr p) .Add e pos) Q :=
 fun A G env Φ s ok hm I=>by
  refine wpAny_AugAssign_AttributeAny (wpAny_Name (loads I (var_ref I hx) (g.wp I fun old hold=>?_)) hd)
  obtain ⟨t,rfl⟩:=hold
  have x₀:=After.start I (.tok (tk:=s.toks + 1) I.froz)
  refine wpAny_mono (h A G env Φ _ ok x₀.inv) (fun v s₁ hp0=>?_) fun o9 o9 x=>x.elim
  obtain ⟨Φ₁,S₁,d,y,r,j,S₂,e,g',q⟩:=hp0
  subst e
  obtain ⟨t',rfl⟩:=r
  refine wpAny_iadd_int ?_
  have y':=(x₀.trans y).pure (.tok (tk:=s₁.toks + 1) y.inv.froz)
  exact g'.wp y'.inv ((by first | exact rfl | exact ⟨_,rfl⟩)) fun s₂ z=>⟨Φ₁,ρ,S₂,.next,After.stmt I (y'.trans z),trivial,q⟩
end
noncomputable def D.isNone:D→Bool
 | .py .none=>true
 | .fn v=>v == .none
 | _=>false
theorem rep_isNone {Φ:Fz} {d:D} {v:Value} (h:Rep Φ d v):(v == .none) = d.isNone:=by
 cases d with
 | py d =>
  cases d with
  | none=>cases (show v = _ from h); rfl
  | bool b=>cases (show v = _ from h); rfl
  | int i=>obtain ⟨t,rfl⟩:=h; rfl
  | str x=>obtain ⟨t,rfl⟩:=h; rfl
  | tuple l=>obtain ⟨a,_,_,_,rfl,_⟩:=h; rfl
  | list l=>obtain ⟨a,_,_,_,rfl,_⟩:=h; rfl
  | dict l=>exact (show False from h).elim
 | ref a=>cases (show v = _ from h); rfl
 | rng _ _ _=>obtain ⟨r,_,_,_,h,_⟩:=h; subst h; rfl
 | exc _ _=>obtain ⟨a,_,_,_,h,_⟩:=h; subst h; rfl
 | fn _=>cases (show v = _ from h); rfl
section
variable {n:Nat} {K:Kx} {R:Rsc} {sc:Scope} {ρ:Rho} {S:R.σ}
theorem wt_isnone {e:Expr} {k:Nat} {cp pos:Pos} {Q:Bool→R.σ→Prop} (h:WE n K R sc ρ S e fun d S₁=>Q d.isNone S₁):WT n K R sc ρ S (.Compare e [.Is] [.Constant .none k cp] pos) Q :=
 fun A G env Φ s ok I=>wpAny_isTrue_Compare1 (wpAny_mono (h A G env Φ s ok I) (fun v s₁ ⟨Φ₁,S₁,d,y,r,q⟩ =>
  we_none (n:=n) (Q:=fun d S'=>d = .none∧S' = S₁) ⟨rfl,rfl⟩ A G env Φ₁ s₁ ok y.inv |> fun w=>wpAny_mono w (fun u s₂ hp0=>by
   obtain ⟨Φ₂,S₂,d₂,y₂,r₂,e₁,e₂⟩:=hp0
   subst e₁ e₂
   (first | subst r₂ | (cases (show _ = _ from r₂)))
   refine is_none (wpAny_truthy_bool ?_)
   rw [rep_isNone r]
   exact ⟨Φ₂,S₂,y.trans y₂,q⟩) fun o9 o9 x=>x.elim) fun o9 o9 x=>x.elim)
theorem wt_isnot {e:Expr} {k:Nat} {cp pos:Pos} {Q:Bool→R.σ→Prop} (h:WE n K R sc ρ S e fun d S₁=>Q (!d.isNone) S₁):WT n K R sc ρ S (.Compare e [.IsNot] [.Constant .none k cp] pos) Q :=
 fun A G env Φ s ok I=>wpAny_isTrue_Compare1 (wpAny_mono (h A G env Φ s ok I) (fun v s₁ ⟨Φ₁,S₁,d,y,r,q⟩ =>
  we_none (n:=n) (Q:=fun d S'=>d = .none∧S' = S₁) ⟨rfl,rfl⟩ A G env Φ₁ s₁ ok y.inv |> fun w=>wpAny_mono w (fun u s₂ hp0=>by
   obtain ⟨Φ₂,S₂,d₂,y₂,r₂,e₁,e₂⟩:=hp0
   subst e₁ e₂
   (first | subst r₂ | (cases (show _ = _ from r₂)))
   refine isNot_none (wpAny_truthy_bool ?_)
   rw [rep_isNone r]
   exact ⟨Φ₂,S₂,y.trans y₂,q⟩) fun o9 o9 x=>x.elim) fun o9 o9 x=>x.elim)
end
noncomputable def atK:List (Ky×D)→Ky→Option D
 | [],_=>none
 | (k,d) :: l,x=>if k = x then some d else atK l x
noncomputable def putK:List (Ky×D)→Ky→D→List (Ky×D)
 | [],x,d=>[(x,d)]
 | (k,e) :: l,x,d=>if k = x then (k,d) :: l else (k,e) :: putK l x d
theorem atK_cons {k x:Ky} {d:D} {l:List (Ky×D)}:atK ((k,d) :: l) x = if k = x then some d else atK l x:=rfl
theorem putK_cons {k x:Ky} {d e:D} {l:List (Ky×D)}:putK ((k,e) :: l) x d = if k = x then (k,d) :: l else (k,e) :: putK l x d:=rfl
theorem valueAt_cons {k x:Ky} {v:Value} {l:List (Ky×Value)}:valueAt ((k,v) :: l) x = if k = x then some v else valueAt l x:=by
 unfold valueAt
 rw [List.find?_cons]
 by_cases q:k = x
 ·rw [if_pos q,decide_eq_true q]; rfl
 ·rw [if_neg q,decide_eq_false q]
theorem PairsRep.at {Φ:Fz} {x:Ky} {l:List (Ky×D)}:∀ {kvs:List (Ky×Value)},PairsRep Φ l kvs→(∀ d,atK l x = some d→∃ v,valueAt kvs x = some v∧Rep Φ d v)∧(atK l x = none→valueAt kvs x = none):=by
 induction l with
 | nil =>
  rintro o9 h
  cases h; exact ⟨fun d z=>dNS z,fun o9=>rfl⟩
 | cons hdz l ih =>
  obtain ⟨k,d⟩:=hdz
  rintro o9 ⟨v,r,rfl,h1,h2⟩
  rw [atK_cons,valueAt_cons]
  by_cases q:k = x
  ·rw [if_pos q,if_pos q]; exact ⟨fun d' z=>⟨v,rfl,Option.some.inj z ▸ h1⟩,fun z=>dSN z⟩
  ·rw [if_neg q,if_neg q]; exact ih h2
theorem PairsRep.keys {Φ:Fz} {l:List (Ky×D)}:∀ {kvs:List (Ky×Value)},PairsRep Φ l kvs→kvs.map (·.1) = l.map (·.1):=by
 induction l with
 | nil =>
  rintro o9 h
  cases h; rfl
 | cons hdz l ih =>
  obtain ⟨k,d⟩:=hdz
  rintro o9 ⟨v,r,rfl,h1,h2⟩
  simp [ih h2]
theorem PairsRep.length {Φ:Fz} {l:List (Ky×D)} {kvs:List (Ky×Value)} (h:PairsRep Φ l kvs):kvs.length = l.length:=by
 have:=congrArg List.length h.keys; simpa using this
theorem PairsRep.put {Φ:Fz} {x:Ky} {d:D} {v:Value} (hr:Rep Φ d v) {l:List (Ky×D)}:∀ {kvs:List (Ky×Value)},PairsRep Φ l kvs→(l.map (·.1)).Nodup→PairsRep Φ (putK l x d) (PySem.stored kvs x v):=by
 induction l with
 | nil =>
  rintro o9 h o9
  cases h; exact ⟨v,[],rfl,hr,rfl⟩
 | cons hdz l ih =>
  obtain ⟨k,e⟩:=hdz
  rintro o9 ⟨u,r,rfl,h1,h2⟩ hn
  simp only [List.map_cons,List.nodup_cons] at hn
  have ih:=ih h2 hn.2
  rw [putK_cons]
  have hk:=h2.keys
  by_cases q:k = x
  ·subst q
   have e1:PySem.stored ((k,u) :: r) k v = (k,v) :: r:=by
    unfold PySem.stored
    simp only [List.any_cons,decide_true,Bool.true_or,if_true,List.map_cons]
    rw [map_store_of_not_mem r k v (by rw [hk]; exact hn.1)]
   rw [e1,if_pos rfl]
   exact ⟨v,r,rfl,hr,h2⟩
  ·have e1:PySem.stored ((k,u) :: r) x v = (k,u) :: PySem.stored r x v:=by
    unfold PySem.stored
    simp only [List.any_cons,q,decide_false,Bool.false_or,List.map_cons,if_false]
    split <;> rfl
   rw [e1,if_neg q]
   exact ⟨u,_,rfl,h1,ih⟩
section
variable {n:Nat} {K:Kx} {sc:Scope} {ρ:Rho} {S:Cs}
theorem map_at {G:Ent} {env:Env} {Φ:Fz} {s:Shared} {a:Addr} {l:List (Ky×D)} (I:Inv K (CR K) G sc env ρ S Φ s) (h:S a = some (.map l)):∃ kvs,s.heap.DictOf (kyKind K.prog K.w) a kvs∧PairsRep Φ l kvs∧(a == sysModules) = false:=by
 obtain ⟨h1,⟨o,h2,kvs,h3,h4⟩,h5⟩:=I.rsc a _ h
 exact ⟨kvs,Heap.dictOf_iff.mpr ⟨o,h2,h3⟩,h4,by have:=h5 rfl; simpa using this⟩
theorem map_nodup {Φ:Fz} {l:List (Ky×D)} {kvs:List (Ky×Value)} {h:Heap} {a:Addr} (hd:h.DictOf (kyKind K.prog K.w) a kvs) (hp:PairsRep Φ l kvs):(l.map (·.1)).Nodup:=by
 obtain ⟨_,_,_,_,_,_,_,_,hn⟩:=hd
 rw [← hp.keys]; exact hn
theorem cell_item {G:Ent} {env:Env} {Φ:Fz} {s:Shared} {A:Around} {E:Value→Shared→Prop} {a:Addr} {l:List (Ky×D)} {k:Ky} {d:D} {key:Value} {Q:Value→Shared→Prop} (I:Inv K (CR K) G sc env ρ S Φ s) (h:S a = some (.map l)) (hk:RepP Φ k.d key) (hd:atK l k = some d)
  (hq:∀ v,Rep Φ d v→Q v { s with toks:=s.toks + 1 }):wpAny K.M A (getItem (.ref a) key) Q E s:=by
 obtain ⟨kvs,h1,h2,h3⟩:=map_at I h
 obtain ⟨v,h4,h5⟩:=(h2.at (x:=k)).1 d hd
 exact wpAny_getItem_of (knd:=kyKind K.prog K.w) (Ky.is_iff.mpr hk) h1.mapOf h4 (hq v h5)
theorem cell_get {G:Ent} {env:Env} {Φ:Fz} {s:Shared} {A:Around} {E:Value→Shared→Prop} {a:Addr} {l:List (Ky×D)} {k:Ky} {key:Value} {Q:Value→Shared→Prop} (I:Inv K (CR K) G sc env ρ S Φ s) (h:S a = some (.map l)) (hk:RepP Φ k.d key)
  (hq:∀ v,Rep Φ ((atK l k).getD .none) v→Q v { s with toks:=s.toks + 1 }):wpAny K.M A (call (.builtin "dict.get") [.ref a,key]) Q E s:=by
 obtain ⟨kvs,h1,h2,h3⟩:=map_at I h
 refine call_meetsIn F.slot_dict_get h1.typeIs F.entry_dict_get (F.args_dict_get_2 _ _) (meets_dict_get (kyKind K.prog K.w) a (Ky.is_iff.mpr hk) h3) ⟨_,h1.mapOf,?_⟩
 obtain ⟨i1,i2⟩:=h2.at (x:=k)
 show Q ((valueAt kvs k).getD .none) _
 cases e:atK l k with
 | none=>rw [i2 e]; exact hq _ (by rw [e]; exact rfl)
 | some d =>
  obtain ⟨v,h4,h5⟩:=i1 d e
  rw [h4]; exact hq _ (by rw [e]; exact h5)
theorem cell_setitem {G:Ent} {env:Env} {Φ:Fz} {s:Shared} {A:Around} {E:Value→Shared→Prop} {a:Addr} {l:List (Ky×D)} {k:Ky} {d:D} {key v:Value} {Q:Unit→Shared→Prop} (I:Inv K (CR K) G sc env ρ S Φ s) (h:S a = some (.map l)) (hk:RepP Φ k.d key) (hr:Rep Φ d v) (hl:l.length≤1000)
  (hq:∀ s',After K (CR K) G sc env ρ S Φ s (S.put a (.map (putK l k d))) Φ s'→Q () s'):wpAny K.M A (setItem (.ref a) key v) Q E s:=by
 obtain ⟨kvs,h1,h2,h3⟩:=map_at I h
 refine wpAny_setItem_pairs (knd:=kyKind K.prog K.w) (Ky.is_iff.mpr hk) h1 (fun h' h4 hs=>hq _ ?_) (by rw [h2.length,sizeLine_eq]; grows_one)
 obtain ⟨o',h5,h6⟩:=Heap.dictOf_iff.mp h4
 exact cell_put I h (fun b o hb e=>by rw [hs.2 b hb]; exact e) h5 ⟨_,h6,h2.put hr (map_nodup h1 h2)⟩ fun o9=>by simpa using h3
end
section
variable {n:Nat} {K:Kx} {sc:Scope} {ρ:Rho} {S:Cs}
theorem tc_weight {C:Addr} {vs:List Value}:(Code.builtin "type.__call__" ⟨.ref C :: vs,[]⟩).weight = 1:=by kernel_rfl
theorem tc_units {args:Args}:(Code.builtin "type.__call__" args).cUnits = 1:=by kernel_rfl
theorem Okay.under {A:Around} {C:Addr} {vs:List Value} (ok:Okay (n + 1) A):Okay n (A.under (.builtin "type.__call__" ⟨.ref C :: vs,[]⟩)):=by
 refine ⟨fun o9=>ok.hd (Nat.succ_pos _),?_,?_,ok.gd⟩
 ·have:=ok.depth; show A.depth + (Code.builtin "type.__call__" ⟨.ref C :: vs,[]⟩).weight + n < 900; rw [tc_weight]; dict_keeps
 ·have:=ok.units; show A.units + (Code.builtin "type.__call__" ⟨.ref C :: vs,[]⟩).cUnits + 100 * n < 9000; rw [tc_units]; dict_keeps
theorem under_frames {A:Around} {args:Args}:(A.under (.builtin "type.__call__" args)).frames = A.frames:=rfl
structure MakeF (K:Kx) (C fI:Addr):Prop where
 make:makesIn K.kf C = true
 init:findIn K.kf (.ref C) "__init__" = some (some (.ref fI))
 ty:typeIn K.kf (.ref fI) = some (.type "function")
noncomputable def initQ (Q:Ret→Cs→Prop) (a:Addr):Ret→Cs→Prop
 | .val d,S'=>d = .none∧Q (.val (.ref a)) S'
 | .new _,_=>False
 | .exc cls ds,S'=>Q (.exc cls ds) S'
theorem wcall_make {C fI:Addr} {ds:List D} {Q:Ret→Cs→Prop} (hM:MakeF K C fI)
  (h:∀ a da,S a = none→S da = none→a≠da→WCall n K (CR K) ((S.put da (.attrs [])).put a (.inst C da [])) (.ref fI) (.ref a :: ds) (initQ Q a)):WCall (n + 1) K (CR K) S (.ref C) ds Q :=
 fun A fs Φ s vs ok hfr hfs F hok hr=>by
  have X:K.kf.In s.heap:=K.kfB.keeps F.keeps
  obtain ⟨hp,g,d,t,os⟩:=s
  refine make_core (makes_of X hM.make) (looks_findIn X hM.init) (fun self=>bind_fn X self hM.ty) (.inl rfl) ?_
  have hn0:hp.get? hp.objs.size = none:=heap_size_none hp
  have hn1:(hp.push emptyDict).get? (hp.objs.size + 1) = none:=by have:=heap_size_none (hp.push emptyDict); rwa [Heap.size_push] at this
  have k1:∀ b o,hp.get? b = some o→(hp.push emptyDict).get? b = some o:=fun b o e=>Heap.get?_push_of_some _ e
  have k2:∀ b o,(hp.push emptyDict).get? b = some o→((hp.push emptyDict).push (instObj C hp.objs.size)).get? b = some o:=fun b o e=>Heap.get?_push_of_some _ e
  have g0:((hp.push emptyDict).push (instObj C hp.objs.size)).get? hp.objs.size = some emptyDict:=k2 _ _ (Heap.get?_push_size _ rfl)
  have g1:((hp.push emptyDict).push (instObj C hp.objs.size)).get? (hp.objs.size + 1) = some (instObj C hp.objs.size):=by
   have:=Heap.get?_push_size (hp.push emptyDict) (o:=instObj C hp.objs.size) rfl; rwa [Heap.size_push] at this
  have hnn:hp.get? (hp.objs.size + 1) = none:=by
   cases q:hp.get? (hp.objs.size + 1) with
   | none=>rfl
   | some o=>rw [k1 _ _ q] at hn1; (first | exact dNS hn1 | exact dSN hn1 | (obtain rfl:=Option.some.inj hn1) | cases hn1)
  have fresh:∀ b,hp.get? b = none→S b = none:=fun b hb=>by
   cases q:S b with
   | none=>rfl
   | some c=>obtain ⟨_,⟨o,e,_⟩,_⟩:=hok b c q; rw [show (⟨hp,g,d,t,os⟩:Shared).heap = hp from rfl] at e; rw [hb] at e; (first | exact dNS e | exact dSN e | (obtain rfl:=Option.some.inj e) | cases e)
  have st:Step NoW Φ ⟨hp,g,d,t,os⟩ Φ ⟨(hp.push emptyDict).push (instObj C hp.objs.size),g,d,t,os⟩:=Step.of_keeps (s:=⟨hp,g,d,t,os⟩) (tk:=t) (dr:=d) F.froz fun b o e=>k2 b o (k1 b o e)
  have hΦ:∀ b,hp.get? b = none→Φ b = none:=fun b hb=>none_of_fresh F.froz hb
  have ok2:(CR K).ok ((S.put hp.objs.size (.attrs [])).put (hp.objs.size + 1) (.inst C hp.objs.size [])) Φ ((hp.push emptyDict).push (instObj C hp.objs.size)):=fun b c hb=>by
   by_cases q:b = hp.objs.size + 1
   ·subst q; rw [Cs.put_self] at hb; (first | exact dNS hb | exact dSN hb | (obtain rfl:=Option.some.inj hb) | cases hb)
    exact ⟨hΦ _ hnn,⟨_,g1,#[],rfl,rfl⟩,fun z=>by cases z⟩
   ·rw [Cs.put_ne _ _ q] at hb
    by_cases q':b = hp.objs.size
    ·subst q'; rw [Cs.put_self] at hb; (first | exact dNS hb | exact dSN hb | (obtain rfl:=Option.some.inj hb) | cases hb)
     exact ⟨hΦ _ hn0,⟨_,g0,#[],0,rfl,rfl,by simp,by simp⟩,fun z=>by cases z⟩
    ·rw [Cs.put_ne _ _ q'] at hb
     obtain ⟨h1,⟨o,h2,h3⟩,h4⟩:=hok b c hb
     exact ⟨h1,⟨o,k2 b o (k1 b o h2),h3⟩,h4⟩
  have fp2:FpLe (CR K) S ⟨hp,g,d,t,os⟩ ((S.put hp.objs.size (.attrs [])).put (hp.objs.size + 1) (.inst C hp.objs.size [])):=fun b hb=>by
   by_cases q:b = hp.objs.size + 1
   ·subst q; exact .inr hnn
   ·by_cases q':b = hp.objs.size
    ·subst q'; exact .inr hn0
    ·exact .inl (by
     have h3:((S.put hp.objs.size (.attrs [])).put (hp.objs.size + 1) (.inst C hp.objs.size [])) b≠none:=hb
     rw [Cs.put_ne _ _ q,Cs.put_ne _ _ q'] at h3; exact h3)
  have call:=h (hp.objs.size + 1) hp.objs.size (fresh _ hnn) (fresh _ hn0) (Nat.succ_ne_self _) (A.under (.builtin "type.__call__" ⟨.ref C :: vs,[]⟩)) fs Φ ⟨(hp.push emptyDict).push (instObj C hp.objs.size),g,d,t,os⟩ (.ref (hp.objs.size + 1) :: vs)
   ok.under (under_frames.trans hfr) (hfs.step st fun o9 o9 o9 o9 o9 o9 h=>h.elim) (F.step st) ok2 ⟨_,vs,rfl,rfl,hr⟩
  refine codeAny_mono call fun r s' z=>?_
  cases r with
  | ok fl =>
   cases fl with
   | ret v =>
    obtain ⟨Φ',S',rr,st',fp',ok',rep,q⟩:=z
    cases rr with
    | val dd =>
     obtain ⟨rfl,q⟩:=q
     have rep:v = .none:=rep
     exact ⟨rep,Φ',S',.val (.ref (hp.objs.size + 1)),(st.weaken fun o9 h=>h.elim).trans st' fp2,fp2.trans st fp',ok',rfl,q⟩
    | new _=>exact q.elim
    | exc _ _=>exact rep.elim
   | _=>exact z.elim
  | error e =>
   obtain ⟨ea,Φ',S',cls,ds',tr,h1,st',fp',ok',h5,h6⟩:=z
   exact ⟨ea,Φ',S',cls,ds',tr,h1,(st.weaken fun o9 h=>h.elim).trans st' fp2,fp2.trans st fp',ok',h5.older fun b hb=>heap_none_of_step st hb,h6⟩
end
section
variable {n:Nat} {K:Kx} {sc:Scope} {ρ:Rho} {S:Cs}
theorem plain_args {cp:Pos} {env:Env} {es:List Expr}:es.any isStarred = false→(backTo cp (starEach es env)).any (·.1) = false:=by
 induction es with
 | nil =>
  rintro o9
  exact rfl
 | cons e es ih =>
  rintro h
  simp only [List.any_cons,Bool.or_eq_false_iff] at h
  rw [star_cons h.1]
  show (false || (backTo cp (starEach es env)).any (·.1)) = false
  rw [ih h.2]; rfl
theorem wex_new {c:Str} {C:Addr} {np pos:Pos} {es:List Expr} {Q:D→Cs→Prop} {X:Value→List PyData→Cs→Prop} (hg:K.gl c = some (.ref C)) (hkp:keepIn K.kf (.ref C) = true)
  (h:WEs n K (CR K) sc ρ S es fun ds S₁=>WCall n K (CR K) S₁ (.ref C) ds (retX Q X)) (hk:sc.names.lookup c = some .globalImplicit:=by rfl) (hs:es.any isStarred = false:=by rfl) (hd:(c == ("__debug__":Str)) = false:=by rfl) :
  WEX n K (CR K) sc ρ S (.Call (.Name c np) es [] pos) Q X :=
 fun A G env Φ s ok I=>by
  show wpAny _ _ (do callWith pos (← eval (.Name c np) env) [] (backTo pos (starEach es env)) []) _ _ _
  refine wpAny_bind (wpAny_Name (loads I (glob_var I.scp hg hk) ?_) hd)
  refine callWith_of (P:=fun h=>K.kf.In h) (by rw [plain_args hs]; rfl) (fun h X=>keeps_K hkp h X) (evalArgs_any hs (wpAny_mono (h pos A G env Φ s ok I) (fun vs s₁ ⟨Φ₁,S₁,ds,x₁,r,hc⟩=>⟨x₁.inv.kf,?_⟩) fun o9 o9 x=>x.elim))
  refine wpAny_mono (hc.wp A G.fs Φ₁ s₁ vs ok.toOkay ok.fr x₁.inv.frs x₁.inv.fzn x₁.inv.rsc r) (fun v s' hp0=>?_) fun e s' hp0=>by obtain ⟨ea,Φ',S',cls,ds',tr,h1,st,fpl,rok,h5,h6⟩:=hp0; exact XE.trans x₁ ⟨ea,Φ',S',cls,ds',tr,h1,⟨x₁.inv.step st fpl rok,st,fpl⟩,h5,h6⟩
  obtain ⟨Φ',S',rr,st,fpl,rok,rep,q⟩:=hp0
  have y:After K (CR K) G sc env ρ S₁ Φ₁ s₁ S' Φ' s':=⟨x₁.inv.step st fpl rok,st,fpl⟩
  obtain ⟨Φ₂,S₂,d,z1,z2,z3⟩:=ret_data x₁.inv y rep q
  exact ⟨Φ₂,S₂,d,x₁.trans z1,z2,z3⟩
theorem we_attrE {e:Expr} {attr:Str} {pos:Pos} {Q:D→Cs→Prop} (h:WE n K (CR K) sc ρ S e fun d S₁=>∃ a d',d = .ref a∧GetA K S₁ a attr d'∧Q d' S₁) (hb:∀ env,attributeBase e attr env (eval e env) = eval e env:=by intro o9; rfl) :
  WE n K (CR K) sc ρ S (.Attribute e attr pos) Q :=
 fun A G env Φ s ok I=>by
  rw [arm_eval_Attribute,hb]
  refine wpAny_bind (wpAny_mono (h A G env Φ s ok I) (fun v s₁ hp0=>?_) fun o9 o9 x=>x)
  obtain ⟨Φ₁,S₁,d,y,r,a,d',e1,g,q⟩:=hp0
  subst e1; cases r
  refine wpAny_bind (wpAny_standAt (wpAny_bind (wpAny_holding (g.wp y.inv fun v hr=>?_))))
  exact wpAny_bind (wpAny_letTemporaryGo (wpAny_pure ⟨Φ₁,S₁,d',y.pure (.tok (tk:=s₁.toks + 1) y.inv.froz),hr,q⟩))
inductive ItemQ (k:Ky) (Q:D→Cs→Prop) (d:D) (S:Cs):Prop
 | mk (a:Addr) (l:List (Ky×D)) (d':D) (e:d = .ref a) (h:S a = some (.map l)) (i:atK l k = some d') (q:Q d' S)
theorem we_item {o:Expr} {x:Str} {xp pos:Pos} {k:Ky} {Q:D→Cs→Prop} (hx:ρ.lookup x = some (.val (.py k.d))) (h:WE n K (CR K) sc ρ S o (ItemQ k Q))
  (ht:∀ u r,letTemporaryGo o u r = pure ():=by intro o9 o9; rfl) (hd:(x == ("__debug__":Str)) = false:=by rfl):WE n K (CR K) sc ρ S (.Subscript o (.Name x xp) pos) Q :=
 fun A G env Φ s ok I=>by
  refine Subscript_Name (wpAny_mono (h A G env Φ s ok I) (fun v s₁ hp0=>?_) fun o9 o9 x=>x) ht
  obtain ⟨Φ₁,S₁,d,y,r,a,l,d',e1,hS,hat,q⟩:=hp0
  subst e1; cases r
  obtain ⟨u,u1,u2⟩:=y.inv.vals x _ hx
  refine wpAny_Name (loads y.inv u1 ?_) hd
  obtain ⟨kvs,m1,m2,m3⟩:=map_at y.inv hS
  exact ⟨"dict",_,F.slot_dict_getitem.lookup,m1.typeIs,cell_item y.inv hS u2 hat fun v hr=>⟨Φ₁,S₁,d',y.pure (.tok (tk:=s₁.toks + 1) y.inv.froz),hr,q⟩⟩
noncomputable def CTy:Cell→String→Prop
 | .lst _,T=>T = "list"
 | .map _,T=>T = "dict"
 | .set _,T=>T = "set"
 | _,_=>False
theorem CTy.at {G:Ent} {env:Env} {Φ:Fz} {s:Shared} {a:Addr} {c:Cell} {T:String} (I:Inv K (CR K) G sc env ρ S Φ s) (h:S a = some c) (ht:CTy c T):∃ o,s.heap.get? a = some o∧o.cls = .type T∧o.dict = none:=by
 obtain ⟨o,h1,h2⟩:=cell_at I h
 refine ⟨o,h1,?_⟩
 cases c with
 | lst l=>cases ht; obtain ⟨_,_,h3,_⟩:=h2; exact ⟨h3.1,h3.2.1⟩
 | map l=>cases ht; obtain ⟨_,⟨_,_,h3,_⟩,_⟩:=h2; exact ⟨h3.1,h3.2.1⟩
 | set l=>cases ht; obtain ⟨_,_,_,h3,_⟩:=h2; exact ⟨h3.1,h3.2.1⟩
 | _=>exact ht.elim
inductive MethQ (T:String) (P:Addr→Cs→Prop) (d:D) (S:Cs):Prop
 | mk (a:Addr) (c:Cell) (e:d = .ref a) (h:S a = some c) (t:CTy c T) (p:P a S)
noncomputable def Op1 (n:Nat) (K:Kx) (id:String) (S:Cs) (a:Addr) (d:D) (Q:D→Cs→Prop):Prop :=
 ∀ A G sc env ρ Φ s v,OkayG n A G→Inv K (CR K) G sc env ρ S Φ s→Rep Φ d v →
  wpAny K.M A (call (.builtin id) [.ref a,v]) (PE K (CR K) G sc env ρ S Φ s Q) (fun o9 o9=>False) s
noncomputable def Op0 (n:Nat) (K:Kx) (id:String) (S:Cs) (a:Addr) (Q:D→Cs→Prop):Prop :=
 ∀ A G sc env ρ Φ s,OkayG n A G→Inv K (CR K) G sc env ρ S Φ s →
  wpAny K.M A (call (.builtin id) [.ref a]) (PE K (CR K) G sc env ρ S Φ s Q) (fun o9 o9=>False) s
theorem we_cmeth1 {o e:Expr} {name:Str} {ap cp:Pos} {T id:String} {Q:D→Cs→Prop} (pa:PlainAttrs T) (slot:PySem.Slot T name id) (hty:typeOf (.builtin id) = pure (.type "method_descriptor"))
  (h:WE n K (CR K) sc ρ S o (MethQ T fun a S₁=>WE n K (CR K) sc ρ S₁ e fun d₁ S₂=>Op1 n K id S₂ a d₁ Q)) (he:isStarred e = false:=by rfl) (hline:(ap.endLine == cp.line) = true:=by rfl) (hb:∀ env,attributeBase o name env (eval o env) = eval o env:=by intro o9; rfl) :
  WE n K (CR K) sc ρ S (.Call (.Attribute o name ap) [e] [] cp) Q :=
 fun A G env Φ s ok I=>by
  refine wpAny_Call_method (hb env) (by rw [star_cons he]; rfl) hline pa slot hty (wpAny_mono (h A G env Φ s ok I) (fun v s₁ hp0=>?_) fun o9 o9 x=>x)
  obtain ⟨Φ₁,S₁,d,y,r,a,c,e1,hS,hT,he'⟩:=hp0
  subst e1; cases r
  obtain ⟨oc,o1,o2,o3⟩:=CTy.at y.inv hS hT
  refine ⟨⟨oc,o1,o2⟩,fun b eb=>by cases eb; exact ⟨oc,o1,o3⟩,?_⟩
  refine arg1 he (wpAny_mono (he' A G env Φ₁ s₁ ok y.inv) (fun u s₂ hp0=>?_) fun o9 o9 x=>x)
  obtain ⟨Φ₂,S₂,d₁,z,ru,op⟩:=hp0
  exact wpAny_mono (op A G sc env ρ Φ₂ s₂ u ok z.inv ru) (fun r s₃ hp0=>by obtain ⟨Φ₃,S₃,d',w,rr,q⟩:=hp0; exact ⟨Φ₃,S₃,d',(y.trans z).trans w,rr,q⟩) fun o9 o9 x=>x
theorem we_cmeth0 {o:Expr} {name:Str} {ap cp:Pos} {T id:String} {Q:D→Cs→Prop} (pa:PlainAttrs T) (slot:PySem.Slot T name id) (hty:typeOf (.builtin id) = pure (.type "method_descriptor"))
  (h:WE n K (CR K) sc ρ S o (MethQ T fun a S₁=>Op0 n K id S₁ a Q)) (hline:(ap.endLine == cp.line) = true:=by rfl) (hb:∀ env,attributeBase o name env (eval o env) = eval o env:=by intro o9; rfl) :
  WE n K (CR K) sc ρ S (.Call (.Attribute o name ap) [] [] cp) Q :=
 fun A G env Φ s ok I=>by
  refine wpAny_Call_method (hb env) rfl hline pa slot hty (wpAny_mono (h A G env Φ s ok I) (fun v s₁ hp0=>?_) fun o9 o9 x=>x)
  obtain ⟨Φ₁,S₁,d,y,r,a,c,e1,hS,hT,op⟩:=hp0
  subst e1; cases r
  obtain ⟨oc,o1,o2,o3⟩:=CTy.at y.inv hS hT
  refine ⟨⟨oc,o1,o2⟩,fun b eb=>by cases eb; exact ⟨oc,o1,o3⟩,?_⟩
  exact arg0 (wpAny_mono (op A G sc env ρ Φ₁ s₁ ok y.inv) (fun r s₃ hp0=>by obtain ⟨Φ₃,S₃,d',w,rr,q⟩:=hp0; exact ⟨Φ₃,S₃,d',y.trans w,rr,q⟩) fun o9 o9 x=>x)
theorem op_get {a:Addr} {l:List (Ky×D)} {k:Ky} {Q:D→Cs→Prop} (h:S a = some (.map l)) (q:Q ((atK l k).getD .none) S):Op1 n K "dict.get" S a (.py k.d) Q :=
 fun A G sc env ρ Φ s v ok I r=>cell_get I h r fun v hv=>⟨Φ,S,_,.start I (.tok (tk:=s.toks + 1) I.froz),hv,q⟩
theorem RepDs.app {Φ:Fz}:∀ {l₁ l₂:List D} {v₁ v₂:List Value},RepDs Φ l₁ v₁→RepDs Φ l₂ v₂→RepDs Φ (l₁ ++ l₂) (v₁ ++ v₂)
 | [],_,_,_,h,h'=>by cases h; exact h'
 | d :: l,_,_,_,⟨v,r,e,h1,h2⟩,h'=>by subst e; exact ⟨v,_,rfl,h1,RepDs.app h2 h'⟩
theorem op_append {a:Addr} {l:List D} {d:D} {Q:D→Cs→Prop} (h:S a = some (.lst l)) (hl:l.length≤1000) (q:Q .none (S.put a (.lst (l ++ [d])))):Op1 n K "list.append" S a d Q :=
 fun A G sc env ρ Φ s v ok I r=>by
  obtain ⟨o,h1,vs,m,h2,h3,h4⟩:=cell_at I h
  have hz:=h4.length
  refine wpAny_list_append_plain (hsz:=by rw [sizeLine_eq]; simp at hz; dict_keeps) (plain_of h1 h2 h3) fun h' hl' hs=>?_
  obtain ⟨ol,ml,hol,hlc,hld⟩:=of_plain hl'
  exact ⟨Φ,_,.none,cell_put (c':=.lst (l ++ [d])) (tk:=s.toks) I h (fun b ob hb eb=>by rw [hs.2 b hb]; exact eb) hol ⟨_,ml,hlc,hld,by rw [Array.toList_push]; exact h4.app ⟨v,[],rfl,r,rfl⟩⟩ (fun z=>Bool.noConfusion z),(by first | exact rfl | exact ⟨_,rfl⟩),q⟩
end
section
variable {n:Nat} {K:Kx} {sc:Scope} {ρ:Rho} {S:Cs}
theorem we_adopt {e:Expr} {Q:D→Cs→Prop} (h:WF n K (CR K) sc ρ S e fun ds S₁=>∀ a,S₁ a = none→Q (.ref a) (S₁.put a (.lst (ds.map D.py)))):WE n K (CR K) sc ρ S e Q :=
 fun A G env Φ s ok I=>wpAny_mono (h A G env Φ s ok I) (fun v s₁ hp0=>by
  obtain ⟨Φ₁,S₁,ds,a,y,e,ow,nf,hn,q⟩:=hp0
  subst e
  obtain ⟨hΦ,o,vs,m,h1,h2,h3,h4⟩:=ow
  have hS:S₁ a = none:=by
   cases z:S₁ a with
   | none=>rfl
   | some c=>exact absurd (show S₁ a≠none from fun w=>by rw [z] at w; (first | exact dNS w | exact dSN w | (obtain rfl:=Option.some.inj w) | cases w)) nf
  have hr:RepDs Φ₁ (ds.map D.py) vs.toList:=by
   have:∀ {ps:List PyData} {vs:List Value},Reps Φ₁ ps vs→RepDs Φ₁ (ps.map D.py) vs:=by
    intro ps
    induction ps with
    | nil=>exact fun h=>h
    | cons p ps ih=>intro vs h; obtain ⟨v,r,e,a1,a2⟩:=h; exact ⟨v,r,e,a1,ih a2⟩
   exact this h4
  have fpl:FpLe (CR K) S s (S₁.put a (.lst (ds.map D.py))):=fun b hb=>by
   by_cases q':b = a
   ·subst q'; exact .inr hn
   ·exact y.fp b (show S₁ b≠none from fun z=>hb ((Cs.put_ne (S₁:Cs) _ q').trans z))
  refine ⟨Φ₁,_,.ref a,⟨I.step y.step fpl fun b c hb=>?_,y.step,fpl⟩,rfl,q a hS⟩
  by_cases q':b = a
  ·subst q'
   have hb':=(Cs.put_self (S₁:Cs) b _).symm.trans hb
   cases hb'
   exact ⟨hΦ,⟨o,h1,vs,m,h2,h3,hr⟩,fun z=>by cases z⟩
  ·exact y.inv.rsc b c ((Cs.put_ne (S₁:Cs) _ q').symm.trans hb)) fun o9 o9 x=>x
theorem fresh_cell {G:Ent} {env:Env} {Φ:Fz} {s:Shared} {a:Addr} (I:Inv K (CR K) G sc env ρ S Φ s) (hn:s.heap.get? a = none):S a = none:=by
 cases z:S a with
 | none=>rfl
 | some c=>obtain ⟨o,h1,_⟩:=cell_at I z; rw [hn] at h1; (first | exact dNS h1 | exact dSN h1 | (obtain rfl:=Option.some.inj h1) | cases h1)
theorem we_dict {pos:Pos} {Q:D→Cs→Prop} (q:∀ a,S a = none→Q (.ref a) (S.put a (.map []))):WE n K (CR K) sc ρ S (.Dict [] [] pos) Q :=
 fun A G env Φ s ok I=>wpAny_Dict_empty ⟨Φ,_,.ref s.heap.objs.size,cell_new (c:=.map []) (tk:=s.toks) I (heap_size_none _) (fun b o e=>Heap.get?_push_of_some _ e) (Heap.get?_push_size _ rfl)
  ⟨[],⟨#[],0,⟨rfl,rfl,rfl⟩,rfl,fun e he=>by simp at he,by constructor,by simp⟩,rfl⟩ fun o9=>size_ne I,rfl,q _ (fresh_cell I (heap_size_none _))⟩
theorem wx_ifwalrus {x:Str} {xp p cp pos tp:Pos} {k:Nat} {e:Expr} {body orelse:List Stmt} {Q:Fl→Rho→Cs→Prop}
  (h:WE n K (CR K) sc ρ S e fun d S₁=>if d.isNone then WS n K (CR K) sc ((x,.val d) :: ρ) S₁ body Q else WS n K (CR K) sc ((x,.val d) :: ρ) S₁ orelse Q) (hx:isVar sc x = true:=by rfl) :
  WX n K (CR K) sc ρ S (.If (.Compare (.NamedExpr (.Name x xp) e p) [.Is] [.Constant .none k cp] tp) body orelse pos) Q :=
 fun A G env Φ s ok hm I=>by
  refine wpAny_If (wpAny_isTrue_Compare1 (wpAny_NamedExpr (wpAny_mono (h A G env Φ s ok I) (fun v s₁ hp0=>?_) fun o9 o9 x=>x.elim)))
  obtain ⟨Φ₁,S₁,d,y,r,q⟩:=hp0
  refine wpAny_assign_Name (stored y.inv (isVar_or hx) (hm.mine x) fun s₂ X=>?_)
  have z:=(After.stmt I y).trans (X.afterVal y.inv r)
  refine wpAny_mono (we_none (n:=n) (K:=K) (R:=CR K) (sc:=sc) (ρ:=(x,.val d) :: ρ) (S:=S₁) (k:=k) (pos:=cp) (Q:=fun d S'=>d = .none∧S' = S₁) ⟨rfl,rfl⟩ A G env Φ₁ s₂ ok z.inv) (fun u s₃ hp0=>?_) fun o9 o9 x=>x.elim
  obtain ⟨Φ₃,S₃,d₃,y₃,r₃,e₁,e₂⟩:=hp0
  subst e₁ e₂
  (first | subst r₃ | (cases (show _ = _ from r₃)))
  refine is_none (wpAny_truthy_bool ?_)
  rw [rep_isNone r]
  have z':=z.trans (After.stmt z.inv y₃)
  cases hb:d.isNone with
  | true =>
   rw [hb] at q
   exact wpAny_mono ((show WS n K (CR K) sc ((x,.val d) :: ρ) S₃ body Q by simpa using q) A G env Φ₃ s₃ ok hm z'.inv) (fun f s₂ hp0=>by obtain ⟨Φ₂,ρ₂,S₂,fl,w,r,q⟩:=hp0; exact ⟨Φ₂,ρ₂,S₂,fl,z'.trans w,r,q⟩) fun o9 o9 w=>w.trans z'
  | false =>
   rw [hb] at q
   exact wpAny_mono ((show WS n K (CR K) sc ((x,.val d) :: ρ) S₃ orelse Q by simpa using q) A G env Φ₃ s₃ ok hm z'.inv) (fun f s₂ hp0=>by obtain ⟨Φ₂,ρ₂,S₂,fl,w,r,q⟩:=hp0; exact ⟨Φ₂,ρ₂,S₂,fl,z'.trans w,r,q⟩) fun o9 o9 w=>w.trans z'
theorem wx_itemname {o:Expr} {x k:Str} {kp sp xp pos:Pos} {e:Expr} {ky:Ky} {Q:Fl→Rho→Cs→Prop} (hk:ρ.lookup k = some (.val (.py ky.d)))
  (h:WE n K (CR K) sc ρ S e fun d S₁=>WE n K (CR K) sc ρ S₁ o fun d₁ S₂=>∃ a l,d₁ = .ref a∧S₂ a = some (.map l)∧l.length≤1000∧Q .next ((x,.val d) :: ρ) (S₂.put a (.map (putK l ky d)))) (hx:isVar sc x = true:=by rfl) (hdk:(k == ("__debug__":Str)) = false:=by rfl)
  (he:∀ env,(assignEach [.Subscript o (.Name k kp) sp,.Name x xp] env).map (·.2) = [assign (.Subscript o (.Name k kp) sp) env,assign (.Name x xp) env]:=by intro o9; rfl)
  (hw:∀ env,swappedStores [.Subscript o (.Name k kp) sp,.Name x xp] e env = pure none:=by intro o9; rfl) :
  WX n K (CR K) sc ρ S (.Assign [.Subscript o (.Name k kp) sp,.Name x xp] e pos) Q :=
 fun A G env Φ s ok hm I=>by
  refine wpAny_Assign_two (wpAny_mono (h A G env Φ s ok I) (fun v s₁ hp0=>?_) fun o9 o9 x=>x.elim) (he env) (hw env)
  obtain ⟨Φ₁,S₁,d,y,r,q⟩:=hp0
  rw [arm_assign_Subscript]
  refine wpAny_bind (wpAny_holding (wpAny_mono (q A G env Φ₁ s₁ ok y.inv) (fun ov s₂ hp0=>?_) fun o9 o9 x=>x.elim))
  obtain ⟨Φ₂,S₂,d₁,y₂,r₂,a,l,e1,hS,hl,q⟩:=hp0
  subst e1; cases r₂
  obtain ⟨u,u1,u2⟩:=y₂.inv.vals k _ hk
  refine wpAny_bind (wpAny_holding (wpAny_Name (loads y₂.inv u1 ?_) hdk))
  refine wpAny_bind (wpAny_standAt (wpAny_bind (wpAny_holding (cell_setitem y₂.inv hS u2 (r.mono y₂.step.le) hl fun s₃ y₃=>?_))))
  refine wpAny_release ?_
  have w:=(y.trans y₂).trans y₃
  exact wpAny_assign_Name (stored w.inv (isVar_or hx) (hm.mine x) fun s₄ X=>⟨Φ₂,_,_,.next,(After.stmt I w).trans (X.afterVal w.inv (r.mono y₂.step.le)),trivial,q⟩)
end
section
variable {n:Nat} {K:Kx} {R:Rsc} {sc:Scope} {ρ:Rho} {S:R.σ}
end
section
variable {n:Nat} {K:Kx} {sc:Scope} {ρ:Rho} {S:Cs}
theorem lst_at {G:Ent} {env:Env} {Φ:Fz} {s:Shared} {a:Addr} {l:List D} (I:Inv K (CR K) G sc env ρ S Φ s) (h:S a = some (.lst l)):∃ vs,s.heap.IsList a vs∧RepDs Φ l vs.toList∧vs.size = l.length:=by
 obtain ⟨o,h1,vs,m,h2,h3,h4⟩:=cell_at I h
 exact ⟨vs,⟨o,h1,h2.1,m,h3⟩,h4,by simpa using h4.length⟩
end
section
variable {n:Nat} {K:Kx} {sc:Scope} {ρ:Rho} {S:Cs}
end
noncomputable def reprK:Ky→Str
 | .i z=>Str.ofString (toString z)
 | .t x=>reprText x
noncomputable def Ky.small:Ky→Prop
 | .i z=>z.natAbs.log2 < 1920
 | .t x=>x.length≤1000∧(reprText x).length≤100000
section
variable {n:Nat} {K:Kx} {R:Rsc} {sc:Scope} {ρ:Rho} {S:R.σ}
end
section
variable {n:Nat} {K:Kx} {sc:Scope} {ρ:Rho} {S:Cs}
theorem pin_raw {a:Addr} {o:Obj} (h:S a = some (.raw o)):Pin (CR K) S a o:=fun Φ hp hok=>by
 obtain ⟨_,⟨o',h1,h2,_⟩,_⟩:=hok a _ h
 rw [h2] at h1; exact h1
theorem cell_pin {G:Ent} {env:Env} {Φ:Fz} {s:Shared} {a:Addr} {c:Cell} {o:Obj} (I:Inv K (CR K) G sc env ρ S Φ s) (h:S a = some c) (ho:s.heap.get? a = some o) (hdi:o.cls = .type "dict"→a≠sysModules):After K (CR K) G sc env ρ S Φ s (S.put a (.raw o)) Φ s:=by
 obtain ⟨o',h1,h2⟩:=cell_at I h
 have:some o = some o':=ho.symm.trans h1
 cases this
 exact cell_put (c':=.raw o) (h':=s.heap) (tk:=s.toks) I h (fun b ob o9 e=>e) ho ⟨rfl,h2.nofr⟩ fun z=>hdi (eq_of_beq z)
theorem ws_unpin {a:Addr} {c:Cell} {o:Obj} {sts:List Stmt} {Q:Fl→Rho→Cs→Prop} (h:S a = some (.raw o)) (hc:∀ Φ,CellOk K Φ o c) (hdi:c.dictish = true→a≠sysModules) (w:WS n K (CR K) sc ρ (S.put a c) sts Q):WS n K (CR K) sc ρ S sts Q :=
 fun A G env Φ s ok hm I=>by
  obtain ⟨o',h1,h2,_⟩:=cell_at I h
  subst h2
  have y:After K (CR K) G sc env ρ S Φ s (S.put a c) Φ s:=cell_put (c':=c) (h':=s.heap) (tk:=s.toks) I h (fun b ob o9 e=>e) h1 (hc Φ) hdi
  exact wpAny_mono (w A G env Φ s ok hm y.inv) (fun f s' hp0=>by obtain ⟨Φ₂,ρ₂,S₂,fl,z,r,q⟩:=hp0; exact ⟨Φ₂,ρ₂,S₂,fl,(After.stmt I y).trans z,r,q⟩) fun o9 o9 z=>z.trans (After.stmt I y)
end
theorem Ky.scan {k:Ky} {v:Value} (h:k.is v = true):v.scannable = true:=by
 rcases Ky.is_shape h with ⟨z,t,rfl,rfl⟩ | ⟨x,t,rfl,rfl⟩ <;> rfl
noncomputable def D.flat:D→Bool
 | .py .none | .py (.bool _) | .py (.int _) | .py (.str _) | .ref _ | .fn _=>true
 | _=>false
theorem D.flat_rep {Φ Φ':Fz} {d:D} {v:Value} (hf:d.flat = true) (h:Rep Φ d v):Rep Φ' d v:=by
 cases d with
 | py p =>
  cases p with
  | none | bool _ | int _ | str _=>exact h
  | _=>cases hf
 | ref _ | fn _=>exact h
 | _=>cases hf
theorem flat_pairs {Φ Φ':Fz} {l:List (Ky×D)}:∀ {kvs:List (Ky×Value)},(∀ x∈l,x.2.flat = true)→PairsRep Φ l kvs→PairsRep Φ' l kvs:=by
 induction l with
 | nil =>
  rintro o9 o9 h
  exact h
 | cons hdz l ih =>
  obtain ⟨k,d⟩:=hdz
  rintro o9 hf ⟨v,r,e,h1,h2⟩
  exact ⟨v,r,e,D.flat_rep (hf _ (.head _)) h1,ih (fun x hx=>hf x (.tail _ hx)) h2⟩
theorem flat_reps {Φ Φ':Fz} {l:List D}:∀ {vs:List Value},(∀ x∈l,x.flat = true)→RepDs Φ l vs→RepDs Φ' l vs:=by
 induction l with
 | nil =>
  rintro o9 o9 h
  exact h
 | cons d l ih =>
  rintro o9 hf ⟨v,r,e,h1,h2⟩
  exact ⟨v,r,e,D.flat_rep (hf _ (.head _)) h1,ih (fun x hx=>hf x (.tail _ hx)) h2⟩
noncomputable def Cell.flat:Cell→Prop
 | .lst l=>∀ x∈l,x.flat = true
 | .map l=>∀ x∈l,x.2.flat = true
 | _=>False
theorem CellOk.flat {K:Kx} {Φ Φ':Fz} {o:Obj} {c:Cell} (hf:c.flat) (h:CellOk K Φ o c):CellOk K Φ' o c:=by
 cases c with
 | lst l=>obtain ⟨vs,n,h1,h2,h3⟩:=h; exact ⟨vs,n,h1,h2,flat_reps hf h3⟩
 | map l=>obtain ⟨kvs,h1,h2⟩:=h; exact ⟨kvs,h1,flat_pairs hf h2⟩
 | _=>exact hf.elim
noncomputable def delK (l:List (Ky×D)) (k:Ky):List (Ky×D):=l.filter fun x=>decide (x.1≠k)
theorem PairsRep.del {Φ:Fz} {k:Ky} {l:List (Ky×D)}:∀ {kvs:List (Ky×Value)},PairsRep Φ l kvs→PairsRep Φ (delK l k) (PySem.without kvs k):=by
 induction l with
 | nil =>
  rintro o9 h
  cases h; rfl
 | cons hdz l ih =>
  obtain ⟨j,d⟩:=hdz
  rintro o9 ⟨v,r,e,h1,h2⟩
  subst e
  have ih:=ih h2
  unfold delK PySem.without at ih ⊢
  by_cases q:j = k
  ·simp [q]; simpa using ih
  ·simp [q]; exact ⟨v,_,rfl,h1,by simpa using ih⟩
section
variable {n:Nat} {K:Kx} {sc:Scope} {ρ:Rho} {S:Cs}
theorem set_at {G:Ent} {env:Env} {Φ:Fz} {s:Shared} {a:Addr} {l:List Ky} (I:Inv K (CR K) G sc env ρ S Φ s) (h:S a = some (.set l)):s.heap.SetOf (kyKind K.prog K.w) a (fun k=>decide (k∈l)) l.length:=by
 obtain ⟨o,h1,es,ep,t,h2,h3,h4,h5,h6,h7,h8⟩:=cell_at I h
 exact ⟨o,es,ep,t,h1,h2,h3,h4,fun k=>by simpa using h5 k,h6,h7,h8⟩
theorem ws_pin {a:Addr} {c:Cell} {sts:List Stmt} {Q:Fl→Rho→Cs→Prop} (h:S a = some c) (hf:c.flat) (w:∀ o,(∀ Φ,CellOk K Φ o c)→WS n K (CR K) sc ρ (S.put a (.raw o)) sts Q):WS n K (CR K) sc ρ S sts Q :=
 fun A G env Φ s ok hm I=>by
  obtain ⟨h0,⟨o,h1,h2⟩,h3⟩:=I.rsc a c h
  have y:=cell_pin I h h1 fun hc=>by
   cases c with
   | lst l=>obtain ⟨_,_,p,_⟩:=h2; rw [p.1] at hc; exact absurd hc (by simp)
   | map l=>exact h3 rfl
   | _=>exact hf.elim
  exact wpAny_mono (w o (fun Φ'=>CellOk.flat hf h2) A G env Φ s ok hm y.inv) (fun f s' hp0=>by obtain ⟨Φ₂,ρ₂,S₂,fl,z,r,q⟩:=hp0; exact ⟨Φ₂,ρ₂,S₂,fl,(After.stmt I y).trans z,r,q⟩) fun o9 o9 z=>z.trans (After.stmt I y)
noncomputable def IsMap (K:Kx) (S:Cs) (a:Addr) (l:List (Ky×D)):Prop:=S a = some (.map l)∨(a≠sysModules∧∃ o,S a = some (.raw o)∧∀ Φ,CellOk K Φ o (.map l))
theorem IsMap.at {G:Ent} {env:Env} {Φ:Fz} {s:Shared} {a:Addr} {l:List (Ky×D)} (h:IsMap K S a l) (I:Inv K (CR K) G sc env ρ S Φ s):∃ kvs,s.heap.DictOf (kyKind K.prog K.w) a kvs∧PairsRep Φ l kvs∧(a == sysModules) = false:=by
 rcases h with h | ⟨ns,o,h,hc⟩
 ·exact map_at I h
 ·obtain ⟨o',h1,h2,_⟩:=cell_at I h
  subst h2
  obtain ⟨kvs,k1,k2⟩:=hc Φ
  exact ⟨kvs,Heap.dictOf_iff.mpr ⟨o',h1,k1⟩,k2,by simpa using ns⟩
theorem ws_pinmap {a:Addr} {l:List (Ky×D)} {sts:List Stmt} {Q:Fl→Rho→Cs→Prop} (h:S a = some (.map l)) (hf:∀ x∈l,x.2.flat = true) (w:∀ o,a≠sysModules→(∀ Φ,CellOk K Φ o (.map l))→WS n K (CR K) sc ρ (S.put a (.raw o)) sts Q):WS n K (CR K) sc ρ S sts Q :=
 fun A G env Φ s ok hm I=>by
  obtain ⟨_,_,h3⟩:=I.rsc a _ h
  exact ws_pin (c:=.map l) h hf (fun o ho=>w o (h3 rfl) ho) A G env Φ s ok hm I
theorem we_itemP {o:Expr} {x:Str} {xp pos:Pos} {k:Ky} {Q:D→Cs→Prop} (hx:ρ.lookup x = some (.val (.py k.d))) (h:WE n K (CR K) sc ρ S o fun d S₁=>∃ a l d',d = .ref a∧IsMap K S₁ a l∧atK l k = some d'∧Q d' S₁)
  (ht:∀ u r,letTemporaryGo o u r = pure ():=by intro o9 o9; rfl) (hd:(x == ("__debug__":Str)) = false:=by rfl):WE n K (CR K) sc ρ S (.Subscript o (.Name x xp) pos) Q :=
 fun A G env Φ s ok I=>by
  refine Subscript_Name (wpAny_mono (h A G env Φ s ok I) (fun v s₁ hp0=>?_) fun o9 o9 x=>x) ht
  obtain ⟨Φ₁,S₁,d,y,r,a,l,d',e1,hS,hat,q⟩:=hp0
  subst e1; cases r
  obtain ⟨u,u1,u2⟩:=y.inv.vals x _ hx
  refine wpAny_Name (loads y.inv u1 ?_) hd
  obtain ⟨kvs,m1,m2,m3⟩:=hS.at y.inv
  obtain ⟨v,h4,h5⟩:=(m2.at (x:=k)).1 d' hat
  exact ⟨"dict",_,F.slot_dict_getitem.lookup,m1.typeIs,wpAny_getItem_of (knd:=kyKind K.prog K.w) (Ky.is_iff.mpr u2) m1.mapOf h4 ⟨Φ₁,S₁,d',y.pure (.tok (tk:=s₁.toks + 1) y.inv.froz),h5,q⟩⟩
noncomputable def InC (K:Kx) (S:Cs) (a:Addr) (k:Ky) (b:Bool):Prop:=(∃ l,S a = some (.set l)∧b = decide (k∈l))∨∃ l,IsMap K S a l∧b = (atK l k).isSome
theorem InC.wp {G:Ent} {env:Env} {Φ:Fz} {s:Shared} {A:Around} {E:Value→Shared→Prop} {a:Addr} {k:Ky} {b:Bool} {key:Value} {Q:Value→Shared→Prop} (h:InC K S a k b) (I:Inv K (CR K) G sc env ρ S Φ s) (hk:RepP Φ k.d key)
  (hq:Q (.bool b) { s with toks:=s.toks + 1 }):wpAny K.M A (compareOp .In key (.ref a)) Q E s:=by
 have hk':=Ky.is_iff.mpr hk
 rcases h with ⟨l,h1,rfl⟩ | ⟨l,h1,rfl⟩
 ·exact wpAny_inSet_of (knd:=kyKind K.prog K.w) hk' (Ky.scan hk') (set_at I h1) hq
 ·obtain ⟨kvs,m1,m2,m3⟩:=h1.at I
  refine wpAny_in_of (knd:=kyKind K.prog K.w) hk' m3 m1.mapOf ?_
  obtain ⟨i1,i2⟩:=m2.at (x:=k)
  cases e:atK l k with
  | none=>rw [i2 e]; simpa [e] using hq
  | some d=>obtain ⟨v,h4,_⟩:=i1 d e; rw [h4]; simpa [e] using hq
inductive InQ (K:Kx) (k:Ky) (Q:Bool→Cs→Prop) (d:D) (S:Cs):Prop
 | mk (a:Addr) (b:Bool) (e:d = .ref a) (i:InC K S a k b) (q:Q b S)
theorem wt_in {l r:Expr} {pos:Pos} {k:Ky} {Q:Bool→Cs→Prop} (h:WE n K (CR K) sc ρ S l fun d S₁=>d = .py k.d∧WE n K (CR K) sc ρ S₁ r (InQ K k Q)) (hm:behindInMarks .In r = false:=by with_unfolding_all rfl) :
  WT n K (CR K) sc ρ S (.Compare l [.In] [r] pos) Q :=
 fun A G env Φ s ok I=>wpAny_isTrue_Compare1 (wpAny_mono (h A G env Φ s ok I) (fun u s₁ ⟨Φ₁,S₁,d,x₁,r₁,e1,q₁⟩ =>
  wpAny_mono (q₁ A G env Φ₁ s₁ ok x₁.inv) (fun v s₂ hp0=>by
   obtain ⟨Φ₂,S₂,d₂,x₂,r₂,a,b,e2,hin,q⟩:=hp0
   subst e1 e2; cases r₂
   exact hin.wp x₂.inv (RepP.mono x₂.step.le r₁) (wpAny_truthy_bool ⟨Φ₂,S₂,(x₁.trans x₂).pure (.tok (tk:=s₂.toks + 1) x₂.inv.froz),q⟩)) fun o9 o9 x=>x.elim) fun o9 o9 x=>x.elim) hm
theorem we_set0 {f:Str} {fp pos:Pos} {Q:D→Cs→Prop} (hf:K.gl f = some (.type "set")) (q:∀ a,S a = none→Q (.ref a) (S.put a (.set [])))
  (hk:sc.names.lookup f = some .globalImplicit:=by rfl) (hd:(f == ("__debug__":Str)) = false:=by rfl):WE n K (CR K) sc ρ S (.Call (.Name f fp) [] [] pos) Q :=
 fun A G env Φ s ok I=>by
  show wpAny _ _ (do callWith pos (← eval (.Name f fp) env) [] (backTo pos (starEach [] env)) []) _ _ _
  refine wpAny_bind (wpAny_Name (loads I (glob_var I.scp hf hk) ?_) hd)
  refine PyProof.Rows.callWith_type rfl (evalArgs_any rfl (spliced_nil (call_set_0 fun led=>?_)))
  exact ⟨Φ,_,.ref s.heap.objs.size,cell_new (c:=.set []) (tk:=s.toks) I (heap_size_none _) (fun b o e=>Heap.get?_push_of_some _ e) (Heap.get?_push_size _ rfl)
   ⟨#[],0,_,⟨rfl,rfl,rfl⟩,rfl,fun e he=>by simp at he,fun k=>by simp,by decide,rfl,rfl⟩ (fun z=>Bool.noConfusion z),rfl,q _ (fresh_cell I (heap_size_none _))⟩
theorem op_add {a:Addr} {l:List Ky} {k:Ky} {Q:D→Cs→Prop} (h:S a = some (.set l)) (hl:l.length≤1000) (hk:k∉l) (q:Q .none (S.put a (.set (l ++ [k])))):Op1 n K "set.add" S a (.py k.d) Q :=
 fun A G sc env ρ Φ s v ok I r=>by
  have hk':=Ky.is_iff.mpr r
  refine call_set_add (knd:=kyKind K.prog K.w) hk' (Ky.scan hk') (set_at I h) (by unfold scanBound; dict_keeps) fun h' hsb hS'=>?_
  obtain ⟨o',es,ep,t,g1,g2,g3,g4,g5,g6,g7,g8⟩:=hS'
  refine ⟨Φ,_,.none,cell_put (c':=.set (l ++ [k])) (tk:=s.toks + 1) I h (fun b ob hb eb=>by rw [hsb.2 b hb]; exact eb) g1 ⟨es,ep,t,g2,g3,g4,fun j=>?_,g6,g7,?_⟩ (fun z=>Bool.noConfusion z),(by first | exact rfl | exact ⟨_,rfl⟩),q⟩
  ·rw [← g5 j]; simp
  ·rw [g8]; simp [hk]
end
noncomputable def idx {α:Type} (l:List α) (k:Int):Option α:=if 0≤k then l[k.toNat]? else if -(l.length:Int)≤k then l[(k + l.length).toNat]? else none
noncomputable def pick {α:Type} (l:List α) (lo hi st:Option Int):List α :=
 (sliceRange (sliceBounds lo hi st l.length).1 (sliceBounds lo hi st l.length).2.1 (sliceBounds lo hi st l.length).2.2).filterMap (l[·]?)
theorem Reps.filter {Φ:Fz} {l:List PyData} {vs:List Value} (h:Reps Φ l vs):∀ (is:List Nat),Reps Φ (is.filterMap (l[·]?)) (is.filterMap (vs[·]?))
 | []=>rfl
 | i :: is=>by
  rw [List.filterMap_cons,List.filterMap_cons]
  cases e:l[i]? with
  | none =>
   have:vs[i]? = none:=by
    rw [List.getElem?_eq_none_iff] at e ⊢; have:=h.length; dict_keeps
   simp only [this]; exact Reps.filter h is
  | some d =>
   obtain ⟨v,h1,h2⟩:=h.get e
   rw [h1]; exact ⟨v,_,rfl,h2,Reps.filter h is⟩
theorem Reps.pick {Φ:Fz} {l:List PyData} {vs:Array Value} (h:Reps Φ l vs.toList) (lo hi st:Option Int):Reps Φ (pick l lo hi st) (slicePick vs lo hi st).toList:=by
 unfold Mine.pick slicePick
 rw [size_eq h]
 have e:(fun i:Nat=>vs[i]?) = fun i=>vs.toList[i]?:=by funext i; simp
 rw [e]
 exact h.filter _
theorem filter_range {α:Type}:∀ (n a:Nat) (l:List α),(List.range n).filterMap (fun k=>l[a + k]?) = (l.drop a).take n
 | 0,_,_=>by simp
 | n + 1,a,l=>by
  rw [List.range_succ,List.filterMap_append,filter_range n a l,List.take_add_one,List.getElem?_drop]
  congr 1
theorem sliceRange1 (a b:Nat):sliceRange a b 1 = (List.range (b - a)).map fun k=>a + k:=by
 unfold sliceRange
 simp only [show (1:Int) > 0 by decide,if_true]
 have e:(if (a:Int) < b then ((b:Int) - a + 1 - 1) / 1 else 0).toNat = b - a:=by
  split
  ·rw [Int.ediv_one]; dict_keeps
  ·dict_keeps
 rw [e]
 refine List.map_congr_left fun k o9=>by dict_keeps
theorem minI (a n:Nat):max (0:Int) (min (a:Int) (n:Int)) = ((min a n:Nat):Int):=by
 rcases Nat.le_total a n with h | h
 ·rw [Nat.min_eq_left h,Int.min_eq_left (Int.ofNat_le.mpr h)]; exact Int.max_eq_right (Int.natCast_nonneg _)
 ·rw [Nat.min_eq_right h,Int.min_eq_right (Int.ofNat_le.mpr h)]; exact Int.max_eq_right (Int.natCast_nonneg _)
theorem pick_from {α:Type} (l:List α) (a:Nat):pick l (some a) none none = l.drop a:=by
 unfold pick sliceBounds
 simp only [Option.getD_none,show (1:Int) > 0 by decide,if_true]
 rw [if_neg (by (first | lia | omega))]
 have e:max 0 (min (a:Int) l.length) = ((min a l.length:Nat):Int):=minI _ _
 rw [e,sliceRange1,List.filterMap_map]
 have:=filter_range (l.length - min a l.length) (min a l.length) l
 refine Eq.trans this ?_
 by_cases h:a≤l.length
 ·rw [Nat.min_eq_left h,List.take_of_length_le (by simp)]
 ·rw [Nat.min_eq_right (by (first | lia | omega))]; simp; (first | lia | omega)
theorem pick_to {α:Type} (l:List α) (b:Nat):pick l none (some b) none = l.take b:=by
 unfold pick sliceBounds
 simp only [Option.getD_none,show (1:Int) > 0 by decide,if_true]
 rw [if_neg (by grows_one)]
 have e:max 0 (min (b:Int) l.length) = ((min b l.length:Nat):Int):=minI _ _
 rw [e,show (0:Int) = ((0:Nat):Int) from rfl,sliceRange1,List.filterMap_map]
 have:=filter_range (min b l.length - 0) 0 l
 refine Eq.trans this ?_
 simp [List.take_eq_take_iff]
inductive PPs (K:Kx) (R:Rsc) (G:Ent) (sc:Scope) (env:Env) (ρ:Rho) (S:R.σ) (Φ:Fz) (s:Shared) (Q:Option Int→R.σ→Prop) (v:Value) (s':Shared):Prop
 | mk (Φ':Fz) (S':R.σ) (i:Option Int) (a:After K R G sc env ρ S Φ s S' Φ' s') (p:IsPart v i) (q:Q i S')
noncomputable def WP (n:Nat) (K:Kx) (R:Rsc) (sc:Scope) (ρ:Rho) (S:R.σ) (e:Option Expr) (Q:Option Int→R.σ→Prop):Prop:=match e with
 | none=>Q none S
 | some e=>WE n K R sc ρ S e fun d S₁=>∃ i,d = .int i∧Q (some i) S₁
section
variable {n:Nat} {K:Kx} {R:Rsc} {sc:Scope} {ρ:Rho} {S:R.σ}
theorem WP.wp {e:Option Expr} {Q:Option Int→R.σ→Prop} (h:WP n K R sc ρ S e Q) (A:Around) (G:Ent) (env:Env) (Φ:Fz) (s:Shared) (ok:OkayG n A G) (I:Inv K R G sc env ρ S Φ s) :
  wpAny K.M A (evalPart e env) (PPs K R G sc env ρ S Φ s Q) (fun o9 o9=>False) s:=by
 cases e with
 | none=>exact wpAny_pure ⟨Φ,S,none,.refl I,.none,h⟩
 | some e=>exact wpAny_mono (h A G env Φ s ok I) (fun v s₁ hp0=>by
   obtain ⟨Φ₁,S₁,d,y,r,i,e1,q⟩:=hp0
   subst e1; obtain ⟨t,rfl⟩:=r
   exact ⟨Φ₁,S₁,some i,y,.int i t,q⟩) fun o9 o9 x=>x
set_option tactic.hygienic true in
theorem getItem_idx {A:Around} {E:Value→Shared→Prop} {Φ:Fz} {s:Shared} {a:Addr} {items:Array Value} {ds:List PyData} {k:Int} {t:Tok} {x:PyData} {Q:Value→Shared→Prop} (hl:s.heap.IsList a items) (hr:Reps Φ ds items.toList) (hi:idx ds k = some x) (hsz:ds.length < 2 ^ 62)
  (h:∀ v,RepP Φ x v→Q v s):wpAny K.M A (getItem (.ref a) (.int k t)) Q E s:=by
 unfold idx at hi
 have hz:=size_eq hr
 split at hi
 ·rename_i h0
  obtain ⟨v,h1,h2⟩:=hr.get hi
  have:k.toNat < ds.length:=by
   rcases Nat.lt_or_ge k.toNat ds.length with q | q
   ·exact q
   ·rw [List.getElem?_eq_none q] at hi; (first | exact dNS hi | exact dSN hi | (obtain rfl:=Option.some.inj hi) | cases hi)
  exact wpAny_getItem_list hl h0 (by dict_keeps) (by simpa using h1) (h v h2)
 ·rename_i h0
  split at hi
  ·rename_i h1
   obtain ⟨v,h2,h3⟩:=hr.get hi
   exact wpAny_getItem_list_neg hl (by dict_keeps) (by rw [hz]; exact h1) (by dict_keeps) (by rw [hz]; simpa using h2) (h v h3)
  ·cases hi
set_option tactic.hygienic true in
theorem getItem_idxT {A:Around} {E:Value→Shared→Prop} {Φ:Fz} {s:Shared} {a:Addr} {items:Array Value} {ds:List PyData} {k:Int} {t:Tok} {x:PyData} {Q:Value→Shared→Prop} (hl:IsTup s.heap a items) (hr:Reps Φ ds items.toList) (hi:idx ds k = some x) (hsz:ds.length < 2 ^ 62)
  (h:∀ v,RepP Φ x v→Q v s):wpAny K.M A (getItem (.ref a) (.int k t)) Q E s:=by
 unfold idx at hi
 have hz:=size_eq hr
 split at hi
 ·rename_i h0
  obtain ⟨v,h1,h2⟩:=hr.get hi
  have:k.toNat < ds.length:=by
   rcases Nat.lt_or_ge k.toNat ds.length with q | q
   ·exact q
   ·rw [List.getElem?_eq_none q] at hi; (first | exact dNS hi | exact dSN hi | (obtain rfl:=Option.some.inj hi) | cases hi)
  refine PyProof.Rows.getItem_tuple hl (by dict_keeps) (by dict_keeps) (j:=k.toNat) ?_ (by simpa using h1) (h v h2)
  unfold seqIndex?
  simp only [show ¬ k < 0 by dict_keeps,if_false,hz]
  rw [if_pos (by simp only [Bool.and_eq_true,decide_eq_true_eq]; dict_keeps)]
 ·rename_i h0
  split at hi
  ·rename_i h1
   obtain ⟨v,h2,h3⟩:=hr.get hi
   exact PyProof.Rows.getItem_tuple hl (by dict_keeps) (by dict_keeps) (j:=(k + ds.length).toNat) (by rw [hz]; exact seqIndex_neg (by dict_keeps) (by dict_keeps)) (by simpa using h2) (h v h3)
  ·cases hi
inductive IdxQ {σ:Type} (Q:D→σ→Prop) (d d₂:D) (S:σ):Prop
 | mk (ds:List PyData) (k:Int) (x:PyData) (e:d = .lst ds∨d = .tup ds) (e₂:d₂ = .int k) (h:idx ds k = some x) (hl:ds.length < 2 ^ 62) (q:Q (.py x) S)
theorem we_index {l i:Expr} {pos:Pos} {Q:D→R.σ→Prop}
  (h:WR n K R sc ρ S l fun d S₁=>WE n K R sc ρ S₁ i fun d₂=>IdxQ Q d d₂)
  (hs:∀ o v,subscripted i false o v = operate [o,v] (getItem o v):=by intro o9 o9; with_unfolding_all rfl):WE n K R sc ρ S (.Subscript l i pos) Q :=
 fun A G env Φ s ok I=>Subscript_ (wpAny_mono (h A G env Φ s ok I) (fun o s₁ ⟨Φ₁,S₁,d,y₁,r₁,q₁⟩=>wpAny_mono (q₁ A G env Φ₁ s₁ ok y₁.inv) (fun v s₂ hp0=>by
  obtain ⟨Φ₂,S₂,d₂,y₂,r₂,ds,k,x,e1,e2,hi,hz,q⟩:=hp0
  subst e2
  obtain ⟨t,rfl⟩:=r₂
  have r₁':=away_step r₁ y₂.step y₂.fp
  rcases e1 with e1 | e1
  ·subst e1
   obtain ⟨a,items,rfl,hl,hr⟩:=r₁'.lst' y₂.inv.froz
   exact tail_any hl.typeIs slot_list_getitem.lookup (getItem_idx hl hr hi hz fun v hv=>⟨Φ₂,S₂,.py x,y₁.trans y₂,hv,q⟩) (hs _ _)
  ·subst e1
   obtain ⟨a,items,rfl,hl,hr⟩:=r₁'.tup' y₂.inv.froz
   exact tail_any hl.typeIs slot_tuple_getitem.lookup (getItem_idxT hl hr hi hz fun v hv=>⟨Φ₂,S₂,.py x,y₁.trans y₂,hv,q⟩) (hs _ _)) fun o9 o9 x=>x.elim) fun o9 o9 x=>x.elim)
theorem new_list {G:Ent} {env:Env} {Φ Φ₁:Fz} {s s₁:Shared} {S₁:R.σ} {vs:Array Value} {ds:List PyData} {o:Obj} (y:After K R G sc env ρ S Φ s S₁ Φ₁ s₁) (ho:PL o) (hd:o.data = .seq vs 0) (hnf:o.isFreed = false) (hr:Reps Φ₁ ds vs.toList) :
  After K R G sc env ρ S Φ s S₁ Φ₁ { s₁ with heap:=s₁.heap.push o }∧Owns Φ₁ (s₁.heap.push o) s₁.heap.objs.size ds∧¬ R.fp S₁ s₁.heap.objs.size∧s.heap.get? s₁.heap.objs.size = none:=by
 have hn:=heap_size_none s₁.heap
 refine ⟨y.pure (step_push o y.inv.froz),⟨none_of_fresh y.inv.froz hn,o,vs,0,Heap.get?_push_size _ hnf,ho,hd,hr⟩,fp_fresh y.inv hn,heap_none_of_step y.step hn⟩
theorem wf_slice {l:Expr} {lo hi:Option Expr} {p pos:Pos} {Q:List PyData→R.σ→Prop}
  (h:WR n K R sc ρ S l fun d S₁=>WP n K R sc ρ S₁ lo fun a S₂=>WP n K R sc ρ S₂ hi fun b=>SzL (fun ds=>Q (pick ds a b none)) d):WF n K R sc ρ S (.Subscript l (.Slice lo hi none p) pos) Q :=
 fun A G env Φ s ok I=>Subscript_ (wpAny_mono (h A G env Φ s ok I) (fun o s₁ ⟨Φ₁,S₁,d,y₁,r₁,q₁⟩=>wpAny_Slice (wpAny_mono (q₁.wp A G env Φ₁ s₁ ok y₁.inv) (fun va s₂ ⟨Φ₂,S₂,a,y₂,pa,q₂⟩ =>
  wpAny_mono (q₂.wp A G env Φ₂ s₂ ok y₂.inv) (fun vb s₃ hp0=>by
   obtain ⟨Φ₃,S₃,b,y₃,pb,ds,e1,hz,q⟩:=hp0
   subst e1
   rw [evalPart_none]
   refine wpAny_pure ?_
   have z:=y₂.trans y₃
   have r':=away_step r₁ z.step z.fp
   have w:=(y₁.trans z).pure (step_push { cls:=.type "slice",data:=.fields #[va,vb,.none] } z.inv.froz)
   obtain ⟨ax,items,rfl,hl,hr⟩:=r'.lst' z.inv.froz
   have hl':(s₃.heap.push { cls:=.type "slice",data:=.fields #[va,vb,.none] }).IsList ax items:=hl.push _
   refine tail_any (s:={ s₃ with heap:=s₃.heap.push { cls:=.type "slice",data:=.fields #[va,vb,.none] } }) hl'.typeIs slot_list_getitem.lookup (wpAny_getItem_list_slice hl' (Heap.IsSliceOf.new ..) pa pb .none (by simp) ?_ (by rw [size_eq hr]; exact hz)) (ops:=[_,_]) rfl
   obtain ⟨n1,n2,n3,n4⟩:=new_list (o:={ cls:=.type "list",data:=.seq (slicePick items a b none) }) w ⟨rfl,rfl,rfl⟩ rfl rfl (hr.pick a b none)
   exact ⟨Φ₃,S₃,_,_,n1,rfl,n2,n3,n4,q⟩) fun o9 o9 x=>x.elim) fun o9 o9 x=>x.elim)) fun o9 o9 x=>x.elim)
theorem wf_add {l r:Expr} {pos:Pos} {Q:List PyData→R.σ→Prop}
  (h:WR n K R sc ρ S l fun d S₁=>WR n K R sc ρ S₁ r fun d₂ S₂=>∃ ds es,d = .lst ds∧d₂ = .lst es∧ds.length + es.length≤sizeLine∧Q (ds ++ es) S₂):WF n K R sc ρ S (.BinOp l .Add r pos) Q :=
 fun A G env Φ s ok I=>wpAny_BinOp (wpAny_mono (h A G env Φ s ok I) (fun u s₁ ⟨Φ₁,S₁,d,y₁,r₁,q₁⟩=>wpAny_mono (q₁ A G env Φ₁ s₁ ok y₁.inv) (fun v s₂ hp0=>by
  obtain ⟨Φ₂,S₂,d₂,y₂,r₂,ds,es,e1,e2,hz,q⟩:=hp0
  subst e1 e2
  have r':=away_step r₁ y₂.step y₂.fp
  obtain ⟨a,rfl,o,vs,m,o1,o2,o3,o4⟩:=r'.lst y₂.inv.froz
  obtain ⟨b,rfl,p,ws,k,p1,p2,p3,p4⟩:=r₂.lst y₂.inv.froz
  refine P.add_list (exact_list o1 o2 o3) (exact_list p1 p2 p3) ?_ (by rw [size_eq o4,size_eq p4]; exact hz)
  obtain ⟨n1,n2,n3,n4⟩:=new_list (o:={ cls:=.type "list",data:=.seq (vs ++ ws) }) (ds:=ds ++ es) (y₁.trans y₂) ⟨rfl,rfl,rfl⟩ rfl rfl (by rw [Array.toList_append]; exact o4.append p4)
  exact ⟨Φ₂,S₂,_,_,n1,rfl,n2,n3,n4,q⟩) fun o9 o9 x=>x.elim) fun o9 o9 x=>x.elim)
end
theorem RepDs.getI {Φ:Fz} {l:List D}:∀ {vs:List Value} {i:Nat} {d:D},RepDs Φ l vs→l[i]? = some d→∃ v,vs[i]? = some v∧Rep Φ d v:=by
 induction l with
 | nil =>
  rintro o9 o9 o9 o9 e
  simp at e
 | cons d l ih =>
  rintro vs i d' ⟨v,r,e1,h2,h3⟩ e
  subst e1
  cases i with
  | zero=>simp at e; subst e; exact ⟨v,rfl,h2⟩
  | succ i=>simpa using ih h3 (by simpa using e)
theorem RepDs.erase {Φ:Fz} {l:List D}:∀ {vs:List Value} (k:Nat),RepDs Φ l vs→RepDs Φ (l.eraseIdx k) (vs.eraseIdx k):=by
 induction l with
 | nil=>intro vs k h; cases (show vs = [] from h); exact rfl
 | cons d l ih =>
  intro vs k h
  obtain ⟨v,r,rfl,h2,h3⟩:=h
  cases k with
  | zero=>exact h3
  | succ k=>exact ⟨v,_,rfl,h2,ih k h3⟩
section
variable {n:Nat} {K:Kx} {R:Rsc} {sc:Scope} {ρ:Rho} {S:R.σ}
theorem wx_exprA {e:Expr} {pos:Pos} {Q:Fl→Rho→R.σ→Prop} (h:WE n K R sc ρ S e fun d S₁=>Q .next ρ S₁) (hs:∀ env,swapsWith e none pos.line env = pure false:=by intro o9; rfl):WX n K R sc ρ S (.Expr e pos) Q :=
 fun A G env Φ s ok hm I=>wpAny_Expr_any (wpAny_mono (h A G env Φ s ok I) (fun v s₁ hp0=>by obtain ⟨Φ₁,S₁,d,y,r,q⟩:=hp0; exact ⟨Φ₁,ρ,S₁,.next,After.stmt I y,trivial,q⟩) fun o9 o9 x=>x.elim) (inter_false I) (hs env)
theorem wt_const {b:Bool} {k:Nat} {pos:Pos} {Q:Bool→R.σ→Prop} (q:Q b S):WT n K R sc ρ S (.Constant (.bool b) k pos) Q :=
 fun A G env Φ s ok I=>by
  show wpAny _ _ (do let v ← constValue env (.bool b); standAt _; holding [v] (truthy v)) _ _ _
  refine wpAny_bind (wpAny_pure (wpAny_bind (wpAny_standAt (wpAny_holding (wpAny_truthy_bool ⟨Φ,S,.refl I,q⟩)))))
end
section
variable {n:Nat} {K:Kx} {sc:Scope} {ρ:Rho} {S:Cs}
theorem wt_listcell {x:Str} {xp:Pos} {a:Addr} {l:List D} {Q:Bool→Cs→Prop} (hx:ρ.lookup x = some (.val (.ref a))) (hS:S a = some (.lst l)) (hl:l.length≤1000) (q:Q (!l.isEmpty) S) (hd:(x == ("__debug__":Str)) = false:=by rfl) :
  WT n K (CR K) sc ρ S (.Name x xp) Q :=
 fun A G env Φ s ok I=>by
  show wpAny _ _ (do let v ← eval (.Name x xp) env; standAt _; holding [v] (truthy v)) _ _ _
  refine wpAny_bind (wpAny_Name (loads I (var_ref I hx) (wpAny_bind (wpAny_standAt (wpAny_holding ?_)))) hd)
  obtain ⟨vs,v1,v2,v3⟩:=lst_at I hS
  refine wpAny_truthy_list v1 (by rw [v3]; (first | lia | omega)) ?_
  have e2:vs.isEmpty = l.isEmpty:=by
   rw [Bool.eq_iff_iff,Array.isEmpty_iff_size_eq_zero,v3,List.isEmpty_iff,List.length_eq_zero_iff]
  rw [e2]
  exact ⟨Φ,S,.start I (.tok (tk:=s.toks + 1 + 1) I.froz),q⟩
theorem we_lencell {f:Str} {e:Expr} {fp pos:Pos} {Q:D→Cs→Prop} (hf:K.gl f = some (.builtin "len")) (h:WE n K (CR K) sc ρ S e fun d S₁=>∃ a l,d = .ref a∧S₁ a = some (.lst l)∧l.length≤1000∧Q (.int l.length) S₁)
  (hk:sc.names.lookup f = some .globalImplicit:=by rfl) (he:isStarred e = false:=by rfl) (hd:(f == ("__debug__":Str)) = false:=by rfl):WE n K (CR K) sc ρ S (.Call (.Name f fp) [e] [] pos) Q :=
 fun A G env Φ s ok I=>by
  show wpAny _ _ (do callWith pos (← eval (.Name f fp) env) [] (backTo pos (starEach [e] env)) []) _ _ _
  refine wpAny_bind (wpAny_Name (loads I (glob_var I.scp hf hk) ?_) hd)
  refine callPlain (.b _) (plain_any (by simp [he])) (star_cons he) ?_
  rw [star_cons he]
  refine spliced_cons (wpAny_mono (h A G env Φ s ok I) (fun v s₁ ⟨Φ₁,S₁,d,y,r,a,l,e1,hS,hl,q⟩=>spliced_nil ?_) fun o9 o9 x=>x.elim)
  subst e1; cases r
  obtain ⟨vs,v1,v2,v3⟩:=lst_at y.inv hS
  exact call_len_list v1 (by rw [v3]; dict_keeps) ⟨Φ₁,S₁,.int l.length,y.pure (.tok (tk:=s₁.toks + 1 + 1) y.inv.froz),⟨_,by rw [v3]⟩,q⟩
theorem wx_setitemC {o:Expr} {k:Str} {kp sp pos:Pos} {e:Expr} {ky:Ky} {Q:Fl→Rho→Cs→Prop} (hk:ρ.lookup k = some (.val (.py ky.d)))
  (h:WE n K (CR K) sc ρ S e fun d S₁=>WE n K (CR K) sc ρ S₁ o fun d₁ S₂=>∃ a l,d₁ = .ref a∧S₂ a = some (.map l)∧l.length≤1000∧Q .next ρ (S₂.put a (.map (putK l ky d)))) (hdk:(k == ("__debug__":Str)) = false:=by rfl)
  (hs:∀ env,swapsWith e (some (.Subscript o (.Name k kp) sp)) pos.line env = pure false:=by intro o9; rfl):WX n K (CR K) sc ρ S (.Assign [.Subscript o (.Name k kp) sp] e pos) Q :=
 fun A G env Φ s ok hm I=>wpAny_Assign_Subscript (wpAny_mono (h A G env Φ s ok I) (fun v s₁ ⟨Φ₁,S₁,d,y,r,q⟩=>wpAny_mono (q A G env Φ₁ s₁ ok y.inv) (fun ov s₂ hp0=>by
  obtain ⟨Φ₂,S₂,d₁,y₂,r₂,a,l,e1,hS,hl,q⟩:=hp0
  subst e1; cases r₂
  obtain ⟨u,u1,u2⟩:=y₂.inv.vals k _ hk
  refine wpAny_Name (loads y₂.inv u1 ?_) hdk
  exact cell_setitem y₂.inv hS u2 (r.mono y₂.step.le) hl fun s₃ y₃=>⟨Φ₂,ρ,_,.next,After.stmt I ((y.trans y₂).trans y₃),trivial,q⟩) fun o9 o9 x=>x.elim) fun o9 o9 x=>x.elim) (hs env)
theorem op_pop {a:Addr} {l:List D} {d:D} {Q:D→Cs→Prop} (h:S a = some (.lst (l ++ [d]))) (hl:l.length≤1000) (q:Q d (S.put a (.lst l))):Op0 n K "list.pop" S a Q :=
 fun A G sc env ρ Φ s ok I=>by
  obtain ⟨o,h1,vs,m,h2,h3,h4⟩:=cell_at I h
  have hz:vs.size = l.length + 1:=by simpa using h4.length
  obtain ⟨v,hvv,hrv⟩:=h4.getI (i:=l.length) (d:=d) (by simp)
  refine call_meets F.slot_list_pop ⟨o,h1,h2.1⟩ F.entry_list_pop (F.args_list_pop_1 _) (MeetsSeq.list_pop_last a vs m v (by rw [hz]; simpa using hvv) (by rw [hz,sizeLine_eq]; (first | lia | omega))) ⟨exact_list h1 h2 h3,?_⟩
  obtain ⟨⟨o',m',g1,g2,g3⟩,g4⟩:=upd_list (fun xs=>xs.eraseIdxIfInBounds (vs.size - 1)) h1 h2 h3
  refine ⟨Φ,_,d,cell_put (c':=.lst l) (tk:=s.toks) I h g4 g1 ⟨_,m',g2,g3,?_⟩ (fun z=>Bool.noConfusion z),hrv,q⟩
  rw [erase_toList,hz]
  have:=h4.erase l.length
  rw [List.eraseIdx_append_of_length_le (Nat.le_refl _)] at this
  simpa using this
theorem we_lastC {o i:Expr} {pos:Pos} {Q:D→Cs→Prop} (h:WE n K (CR K) sc ρ S o fun d S₁=>∃ a,d = .ref a∧WE n K (CR K) sc ρ S₁ i fun d₂ S₂=>∃ l d',d₂ = .int (-1)∧S₂ a = some (.lst (l ++ [d']))∧Q d' S₂)
  (hs:∀ o v,subscripted i false o v = operate [o,v] (getItem o v):=by intro o9 o9; with_unfolding_all rfl):WE n K (CR K) sc ρ S (.Subscript o i pos) Q :=
 fun A G env Φ s ok I=>Subscript_ (wpAny_mono (h A G env Φ s ok I) (fun v s₁ ⟨Φ₁,S₁,d,y₁,r₁,a,e1,q₁⟩=>wpAny_mono (q₁ A G env Φ₁ s₁ ok y₁.inv) (fun w s₂ hp0=>by
  obtain ⟨Φ₂,S₂,d₂,y₂,r₂,l,d',e2,hS,q⟩:=hp0
  subst e1 e2; cases r₁
  obtain ⟨t,rfl⟩:=r₂
  obtain ⟨vs,v1,v2,v3⟩:=lst_at y₂.inv hS
  obtain ⟨u,hu,hru⟩:=v2.getI (i:=l.length) (d:=d') (by simp)
  have v3':vs.size = l.length + 1:=by simpa using v3
  refine tail_any v1.typeIs slot_list_getitem.lookup (wpAny_getItem_list_neg v1 (by decide) (by dict_keeps) (by decide) (x:=u) ?_ ⟨Φ₂,S₂,d',y₁.trans y₂,hru,q⟩) (hs _ _)
  have e:(-1 + (vs.size:Int)).toNat = l.length:=by dict_keeps
  rw [e]; simpa using hu) fun o9 o9 x=>x.elim) fun o9 o9 x=>x.elim)
theorem wx_delitemC {o i:Expr} {sp pos:Pos} {k:Ky} {Q:Fl→Rho→Cs→Prop} (h:WE n K (CR K) sc ρ S o fun d S₁=>∃ a,d = .ref a∧WE n K (CR K) sc ρ S₁ i fun d₂ S₂=>∃ l,d₂ = .py k.d∧S₂ a = some (.map l)∧l.length≤1000∧(atK l k).isSome = true∧Q .next ρ (S₂.put a (.map (delK l k)))) :
  WX n K (CR K) sc ρ S (.Delete [.Subscript o i sp] pos) Q :=
 fun A G env Φ s ok hm I=>by
  refine wpAny_Delete (wpAny_deleteEach_cons ?_)
  show wpAny _ _ (do let ov ← eval o env; let iv ← holding [ov] (eval i env); standAt sp; holding [ov,iv] (delItem ov iv); release [ov,iv] []) _ _ _
  refine wpAny_bind (wpAny_mono (h A G env Φ s ok I) (fun ov s₁ ⟨Φ₁,S₁,d,y₁,r₁,a,e1,q₁⟩=>wpAny_bind (wpAny_holding (wpAny_mono (q₁ A G env Φ₁ s₁ ok y₁.inv) (fun iv s₂ ⟨Φ₂,S₂,d₂,y₂,r₂,l,e2,hS,hl,hat,q⟩=>wpAny_bind (wpAny_standAt ?_)) fun o9 o9 x=>x.elim))) fun o9 o9 x=>x.elim)
  subst e1 e2; cases r₁
  obtain ⟨kvs,m1,m2,m3⟩:=map_at y₂.inv hS
  refine wpAny_bind (wpAny_holding (wpAny_delItem_slot m1.typeIs (by decide) F.slot_dict_delitem (call_meetsIn F.slot_dict_delitem m1.typeIs F.entry_dict_delitem (F.args_dict_delitem_2 _ _) (meets_dict_delitem_pairs (kyKind K.prog K.w) a (Ky.is_iff.mpr r₂)) ⟨kvs,m1,by rw [m2.length,sizeLine_eq]; grows_one,?_,fun h' h4 hs=>wpAny_release (wpAny_deleteEach_nil ?_)⟩)))
  ·obtain ⟨d',hd'⟩:=Option.isSome_iff_exists.mp hat
   obtain ⟨v,hv,_⟩:=(m2.at (x:=k)).1 d' hd'
   rw [hv]; rfl
  ·obtain ⟨o',h5,h6⟩:=Heap.dictOf_iff.mp h4
   exact ⟨Φ₂,ρ,_,.next,After.stmt I ((y₁.trans y₂).trans (cell_put (c':=.map (delK l k)) (tk:=s₂.toks + 1) y₂.inv hS (fun b o hb e=>by rw [hs.2 b hb]; exact e) h5 ⟨_,h6,m2.del⟩ fun o9=>by simpa using m3)),trivial,q⟩
theorem wf_sliceC {l:Expr} {lo hi:Option Expr} {p pos:Pos} {Q:List PyData→Cs→Prop}
  (h:WE n K (CR K) sc ρ S l fun d S₁=>∃ a,d = .ref a∧WP n K (CR K) sc ρ S₁ lo fun x S₂=>WP n K (CR K) sc ρ S₂ hi fun y S₃=>∃ ds:List PyData,S₃ a = some (.lst (ds.map D.py))∧ds.length≤1000∧Q (pick ds x y none) S₃):WF n K (CR K) sc ρ S (.Subscript l (.Slice lo hi none p) pos) Q :=
 fun A G env Φ s ok I=>Subscript_ (wpAny_mono (h A G env Φ s ok I) (fun o s₁ ⟨Φ₁,S₁,d,y₁,r₁,a,e1,q₁⟩=>wpAny_Slice (wpAny_mono (q₁.wp A G env Φ₁ s₁ ok y₁.inv) (fun va s₂ ⟨Φ₂,S₂,x,y₂,pa,q₂⟩ =>
  wpAny_mono (q₂.wp A G env Φ₂ s₂ ok y₂.inv) (fun vb s₃ hp0=>by
   obtain ⟨Φ₃,S₃,b,y₃,pb,ds,hS,hz,q⟩:=hp0
   subst e1; cases r₁
   rw [evalPart_none]
   refine wpAny_pure ?_
   have z:=y₁.trans (y₂.trans y₃)
   obtain ⟨items,hl,hr,hsz⟩:=lst_at z.inv hS
   have hr:=hr.pys
   have w:=z.pure (step_push { cls:=.type "slice",data:=.fields #[va,vb,.none] } z.inv.froz)
   have hl':(s₃.heap.push { cls:=.type "slice",data:=.fields #[va,vb,.none] }).IsList a items:=hl.push _
   refine tail_any (s:={ s₃ with heap:=s₃.heap.push { cls:=.type "slice",data:=.fields #[va,vb,.none] } }) hl'.typeIs slot_list_getitem.lookup (wpAny_getItem_list_slice hl' (Heap.IsSliceOf.new ..) pa pb .none (by simp) ?_ (by rw [size_eq hr,sizeLine_eq]; grows_one)) (ops:=[_,_]) rfl
   obtain ⟨n1,n2,n3,n4⟩:=new_list (o:={ cls:=.type "list",data:=.seq (slicePick items x b none) }) w ⟨rfl,rfl,rfl⟩ rfl rfl (hr.pick x b none)
   exact ⟨Φ₃,S₃,_,_,n1,rfl,n2,n3,n4,q⟩) fun o9 o9 x=>x.elim) fun o9 o9 x=>x.elim)) fun o9 o9 x=>x.elim)
end
theorem slot_li_ga:PySem.Slot "list_iterator" "__getattribute__" "object.__getattribute__" :=
 .of (owner:="object") (n:="__getattribute__") (by rw [typeLookup_type,builtinLookup_eq_fast]; kernel_rfl) (by decide +kernel) (by decide +kernel) (by decide +kernel)
  (by first | exact .inl (by decide +kernel) | exact .inr (by decide +kernel)) (by rw [isSubtype_type]; kernel_rfl)
theorem slot_wd_get:PySem.Slot "wrapper_descriptor" "__get__" "wrapper_descriptor.__get__" :=
 .of (owner:="wrapper_descriptor") (n:="__get__") (by rw [typeLookup_type,builtinLookup_eq_fast]; kernel_rfl) (by decide +kernel) (by decide +kernel) (by decide +kernel)
  (by first | exact .inl (by decide +kernel) | exact .inr (by decide +kernel)) (by rw [isSubtype_type]; kernel_rfl)
theorem entry_wd_get:entryFor table "wrapper_descriptor.__get__" = some Builtin.«wrapper_descriptor.__get__»:=entryFor_of_tree (by kernel_rfl)
theorem args_wd_get (a b c:Value):argsOk "wrapper_descriptor.__get__" ⟨[a,b,c],[]⟩:=by unfold argsOk; kernel_rfl
theorem entry_ga:entryFor table "object.__getattribute__" = some Builtin.«object.__getattribute__»:=entryFor_of_tree (by kernel_rfl)
theorem args_ga (a b:Value):argsOk "object.__getattribute__" ⟨[a,b],[]⟩:=by unfold argsOk; kernel_rfl
theorem lk_li_next:typeLookup (.type "list_iterator") "__next__" = pure (some (.builtin "list_iterator.__next__")):=slot_listiter_next.lookup
theorem ty_li_next:typeOf (.builtin "list_iterator.__next__") = pure (.type "wrapper_descriptor"):=by kernel_rfl
theorem no_wd_set:typeLookup (.type "wrapper_descriptor") "__set__" = pure none:=by rw [typeLookup_type,builtinLookup_eq_fast]; kernel_rfl
theorem no_wd_del:typeLookup (.type "wrapper_descriptor") "__delete__" = pure none:=by rw [typeLookup_type,builtinLookup_eq_fast]; kernel_rfl
theorem owner_li:(".".intercalate ("list_iterator.__next__".cutAt '.').dropLast) = "list_iterator":=by
 have e0:"list_iterator.__next__".cutAt '.' = ["list_iterator", "__next__"]:=by first | rfl | decide +kernel
 rw [e0]; decide +kernel
noncomputable def nextObj (I:Addr):Obj:={ cls:=.type "method-wrapper",data:=.fields #[.builtin "list_iterator.__next__",.ref I] }
section
variable {prog:Program} {w:World} {A:Around} {E:Value→Shared→Prop} {h:Heap} {g:Array GenState} {d:Drawn} {t:Nat} {os:OsState} {a:Addr} {o:Obj}
theorem wd_get {R:Result→Shared→Prop} (hx:h.get? a = some o) (hc:o.cls = .type "list_iterator") (hq:R (.ok (.ret (.ref h.objs.size))) ⟨h.push (nextObj a),g,d,t,os⟩) :
  codeAny (model prog w) A (.call (.builtin "wrapper_descriptor.__get__") ⟨[.builtin "list_iterator.__next__",.ref a,.type "list_iterator"],[]⟩) R ⟨h,g,d,t,os⟩:=by
 have hT:(⟨h,g,d,t,os⟩:Shared).TypeIs (.ref a) "list_iterator":=⟨_,hx,hc⟩
 have hT5:(⟨h,g,d,t,os⟩:Shared).TypeIs (.builtin "list_iterator.__next__") "wrapper_descriptor":=ty_li_next
 have f8:isSubtype (.type "list_iterator") (.type (".".intercalate ("list_iterator.__next__".cutAt '.').dropLast)) = pure true:=by rw [owner_li,isSubtype_type]; kernel_rfl
 refine codeAny_call_builtin slot_wd_get.plain entry_wd_get (slot_wd_get.check _ _ _ _ _ _ _ _ hT5 (args_wd_get _ _ _) ?_)
 unfold Builtin.«wrapper_descriptor.__get__»
 repeat (any_goals (first | assumption | wp_step))
theorem next_entry {tk:Tok} {vs:Array Value} {Q:Fin→Shared→Prop} (hx:h.get? a = some { cls:=.type "list_iterator",data:=.fields vs }) (hq:Q (.done (.ret (.ref h.objs.size))) ⟨h.push (nextObj a),g,d,t,os⟩) :
  wpAny (model prog w) A (Builtin.«object.__getattribute__» ⟨[.ref a,.str "__next__" tk],[]⟩) Q E ⟨h,g,d,t,os⟩:=by
 have hT:(⟨h,g,d,t,os⟩:Shared).TypeIs (.ref a) "list_iterator":=⟨_,hx,rfl⟩
 have hT5:(⟨h,g,d,t,os⟩:Shared).TypeIs (.builtin "list_iterator.__next__") "wrapper_descriptor":=ty_li_next
 have f4:=lk_li_next
 have f5:=ty_li_next
 have f6:=slot_wd_get.lookup
 have f7:=no_wd_set
 have f8:=no_wd_del
 repeat (any_goals (first | assumption | wp_step))
 refine wd_get hx rfl (wpAny_pure hq)
theorem next_by {tk:Tok} {vs:Array Value} {fill expr:Bool} {Q:Value→Shared→Prop} (hx:h.get? a = some { cls:=.type "list_iterator",data:=.fields vs })
  (hq:Q (.ref h.objs.size) ⟨h.push (nextObj a),g,d,t,os⟩):wpAny (model prog w) A (getAttrBy (.ref a) (.str "__next__" tk) fill expr) Q E ⟨h,g,d,t,os⟩:=by
 have hT:(⟨h,g,d,t,os⟩:Shared).TypeIs (.ref a) "list_iterator":=⟨_,hx,rfl⟩
 have f2:=slot_li_ga.lookup
 have f3:=slot_li_ga.bind (.ref a)
 have hx0:(expr && onTheHeap (Value.builtin "object.__getattribute__")) = false:=by cases expr <;> rfl
 repeat (any_goals (first | assumption | wp_step))
 refine codeAny_call_builtin slot_li_ga.plain entry_ga (slot_li_ga.check _ _ _ _ _ _ _ _ hT (args_ga _ _) (next_entry hx ?_))
 repeat (any_goals (first | assumption | wp_step))
theorem next_attr {vs:Array Value} {expr:Bool} {Q:Value→Shared→Prop} (hx:h.get? a = some { cls:=.type "list_iterator",data:=.fields vs })
  (hq:Q (.ref h.objs.size) ⟨h.push (nextObj a),g,d,t + 1,os⟩):wpAny (model prog w) A (getAttr (.ref a) "__next__" expr) Q E ⟨h,g,d,t,os⟩:=by
 unfold getAttr
 repeat (any_goals (first | assumption | with_reducible apply next_by hx | wp_step))
end
noncomputable def iterObj (la:Addr) (i:Nat):Obj:={ cls:=.type "list_iterator",data:=.fields #[.ref la,.int i 0] }
noncomputable def iterEnd (i:Nat):Obj:={ cls:=.type "list_iterator",data:=.fields #[.none,.int i 0] }
theorem entry_iter0:entryFor table "iter" = some Builtin.«iter»:=entryFor_of_fast (by kernel_rfl)
theorem args_iter1 (a:Value):argsOk "iter" ⟨[a],[]⟩:=by unfold argsOk; kernel_rfl
theorem call_iter_list {prog:Program} {w:World} {A:Around} {E:Value→Shared→Prop} {s:Shared} {l:Addr} {items:Array Value} {Q:Value→Shared→Prop} (hl:s.heap.IsList l items)
  (h:Q (.ref s.heap.objs.size) { s with heap:=s.heap.push (iterObj l 0) }):wpAny (model prog w) A (call (.builtin "iter") [.ref l]) Q E s:=by
 refine call_function_entry (by decide +kernel) (by decide +kernel) entry_iter0 (args_iter1 _) ?_
 unfold Builtin.«iter»
 refine wpAny_bind (m:=someArgs "iter" 1 2 _) (wpAny_of_eq (a:=[Value.ref l]) (by first | rfl | kernel_rfl!) ?_)
 show wpAny _ _ (pyIter (.ref l) >>= _) _ _ _
 exact wpAny_bind (wpAny_pyIter_list hl (wpAny_pure ⟨_,rfl,h⟩))
theorem nx_check {I:Addr}:checkBoundCall "list_iterator.__next__" ⟨[.ref I],[]⟩ = pure ():=by first | kernel_rfl | rfl
theorem nx_quiet (args:Args):(Code.builtin "list_iterator.__next__" args).quiet = true:=Code.quiet_builtin _ (by decide +kernel)
theorem callWith_nx {M:Model} {A:Around} {E:Value→Shared→Prop} {s:Shared} {pos:Pos} {u I:Addr} {env:Env} {Q:Value→Shared→Prop} (ho:s.heap.get? u = some (nextObj I))
  (hcall:wpAny M A (call (.ref u) []) Q E s):wpAny M A (callWith pos (.ref u) [] (backTo pos (starEach [] env)) []) Q E s:=by
 unfold callWith
 have he:wpAny M A (evalArgs (.ref u) true (backTo pos (starEach [] env)) []) (fun x s₁=>x = ⟨[],[]⟩∧s₁ = s) E s:=by
  exact wpAny_pure ⟨rfl,rfl⟩
 refine wpAny_bind (wpAny_holding (wpAny_mono he (fun x s₁ h₁=>wpAny_bind (wpAny_standAt ?_)) fun o9 o9 x=>x))
 obtain ⟨rfl,rfl⟩:=h₁
 refine wpAny_bind (m:=keeperOf (.ref u)) ?_
 unfold keeperOf
 refine wpAny_bind (wpAny_load ho ?_)
 dsimp only [nextObj]
 rw [if_pos (show (Value.type "method-wrapper" != Value.type "method") = true by decide),if_pos (show (Value.type "method-wrapper" == Value.type "builtin_function_or_method" || Value.type "method-wrapper" == Value.type "method-wrapper") = true by decide)]
 refine wpAny_pure ?_
 exact wpAny_bind (wpAny_mono hcall (fun r s₂ hr=>wpAny_bind (wpAny_holding (wpAny_point (wpAny_pure hr)))) fun o9 o9 x=>x)
theorem call_nx {prog:Program} {w:World} {A:Around} {E:Value→Shared→Prop} {s:Shared} {x I:Addr} {Q:Value→Shared→Prop} (ho:s.heap.get? x = some (nextObj I))
  (h:wpAny (model prog w) (A.under (.builtin "list_iterator.__next__" ⟨[.ref I],[]⟩)) (Builtin.«list_iterator.__next__» ⟨[.ref I],[]⟩) (fun fin s'=>∃ r,fin = .done (.ret r)∧Q r s') E s):wpAny (model prog w) A (call (.ref x) []) Q E s:=by
 refine wpAny_call (codeAny_of_tree ?_)
 show wpAny _ A.in1 (callAny (.ref x) ⟨[],[]⟩) _ _ s
 unfold callAny
 refine wpAny_bind (wpAny_load ho ?_)
 dsimp only [nextObj]
 rw [if_pos (show (Value.type "method-wrapper" == Value.type "method" || Value.type "method-wrapper" == Value.type "builtin_function_or_method" || Value.type "method-wrapper" == Value.type "method-wrapper") = true by decide)]
 show wpAny _ _ (if (Value.type "method-wrapper" != Value.type "method") = true then (do checkBoundCall "list_iterator.__next__" ⟨[.ref I],[]⟩; again (Code.builtin "list_iterator.__next__" ⟨[.ref I],[]⟩)) else _) _ _ _
 rw [if_pos (by decide)]
 refine wpAny_bind (wpAny_of_eq (a:=()) nx_check ?_)
 refine wpAny_pure ⟨nx_quiet _,codeAny_builtin entry_listiter_next (wpAny_mono h (fun fin s' h'=>?_) fun o9 o9 x=>x)⟩
 obtain ⟨r,rfl,hq⟩:=h'
 exact hq
theorem nx_item {prog:Program} {w:World} {A:Around} {E:Value→Shared→Prop} {s:Shared} {it l:Addr} {i:Nat} {items:Array Value} {x:Value} {Q:Value→Shared→Prop} (hit:s.heap.get? it = some (iterObj l i)) (hl:s.heap.IsList l items) (hx:items[i]? = some x)
  (hQ:∀ h',h'.get? it = some (iterObj l (i + 1))→Heap.SameBut it s.heap h'→Q x { s with heap:=h' }) :
  wpAny (model prog w) A (Builtin.«list_iterator.__next__» ⟨[.ref it],[]⟩) (fun fin s'=>∃ r,fin = .done (.ret r)∧Q r s') E s:=by
 obtain ⟨ol,hol,_,nl,hdl⟩:=hl
 show wpAny _ _ (field (.ref it) 0 >>= _) _ _ s
 refine wpAny_bind (wpAny_field hit rfl (x:=.ref l) rfl ?_)
 show wpAny _ _ (if (Value.ref l == Value.none) = true then _ else _) _ _ s
 rw [if_neg (show ¬ ((Value.ref l == Value.none) = true) from Bool.false_ne_true)]
 show wpAny _ _ (field (.ref it) 1 >>= _) _ _ s
 refine wpAny_bind (wpAny_field hit rfl (x:=.int i 0) rfl ?_)
 show wpAny _ _ (seqItems? (.ref l) >>= _) _ _ s
 refine wpAny_bind (wpAny_seqItems hol hdl ?_)
 simp only [Int.toNat_natCast,hx]
 refine wpAny_bind (wpAny_setField hit rfl (by simp) (wpAny_pure ⟨x,rfl,hQ _ ?_ (Heap.SameBut.update ..)⟩))
 have:=Heap.get?_update_self (Obj.mapFields fun fs=>fs.setIfInBounds 1 (rawInt (i + 1))) hit rfl
 exact this
theorem nx_end {prog:Program} {w:World} {A:Around} {E:Value→Shared→Prop} {s:Shared} {it l:Addr} {i:Nat} {items:Array Value} {Q:Value→Shared→Prop} (hh:A.handled = none) (hit:s.heap.get? it = some (iterObj l i)) (hl:s.heap.IsList l items) (hx:items[i]? = none)
  (hE:∀ h' ea t,h'.get? it = some (iterEnd i)→(∀ b o,b≠it→s.heap.get? b = some o→h'.get? b = some o)→s.heap.get? ea = none→s.heap.get? t = none→ea≠t→h'.get? t = some { cls:=.type "tuple",data:=.seq #[] } →
   (∃ vs:Array Value,h'.get? ea = some { cls:=.type "StopIteration",data:=.fields vs }∧vs[0]? = some (.ref t)∧vs[1]? = some .none∧1 < vs.size)→E (.ref ea) { s with heap:=h' }) :
  wpAny (model prog w) A (Builtin.«list_iterator.__next__» ⟨[.ref it],[]⟩) (fun fin s'=>∃ r,fin = .done (.ret r)∧Q r s') E s:=by
 obtain ⟨ol,hol,_,nl,hdl⟩:=hl
 show wpAny _ _ (field (.ref it) 0 >>= _) _ _ s
 refine wpAny_bind (wpAny_field hit rfl (x:=.ref l) rfl ?_)
 show wpAny _ _ (if (Value.ref l == Value.none) = true then _ else _) _ _ s
 rw [if_neg (show ¬ ((Value.ref l == Value.none) = true) from Bool.false_ne_true)]
 show wpAny _ _ (field (.ref it) 1 >>= _) _ _ s
 refine wpAny_bind (wpAny_field hit rfl (x:=.int i 0) rfl ?_)
 show wpAny _ _ (seqItems? (.ref l) >>= _) _ _ s
 refine wpAny_bind (wpAny_seqItems hol hdl ?_)
 simp only [Int.toNat_natCast,hx]
 refine wpAny_bind (wpAny_rule (wpAny_bind (wpAny_setField hit rfl (by simp) ?_)))
 show wpAny _ _ (newExc (.type "StopIteration") [] >>= _) _ _ _
 refine wpAny_bind ?_
 simp only [newExc,newTuple]
 refine wpAny_bind (wpAny_newObj_type ?_ (by size_fits))
 refine wpAny_bind (m:=firstArgMember _ _) (wpAny_of_eq (a:=Value.none) (by first | rfl | (simp only [firstArgMember]; rfl)) ?_)
 refine wpAny_newObj_type ?_ (by size_fits)
 unfold raiseNew
 refine wpAny_bind (wpAny_handled ?_)
 rw [hh]
 refine wpAny_bind (wpAny_pure (wpAny_throw ?_))
 generalize hh1:s.heap.update it (Obj.mapFields fun fs=>fs.setIfInBounds 0 Value.none) = h1
 have sz:h1.objs.size = s.heap.objs.size:=by rw [← hh1]; exact Heap.size_update ..
 have g1:h1.get? it = some (iterEnd i):=by
  have:=Heap.get?_update_self (Obj.mapFields fun fs=>fs.setIfInBounds 0 Value.none) hit rfl
  rw [← hh1]; exact this
 have k1:∀ b o,b≠it→s.heap.get? b = some o→h1.get? b = some o:=fun b o hb e=>by
  rw [← hh1,(Heap.SameBut.update (h:=s.heap) (a:=it) ..).2 b hb]; exact e
 have sz2:(h1.push { cls:=Value.type "tuple",data:=Data.seq #[] }).objs.size = s.heap.objs.size + 1:=by rw [Heap.size_push,sz]
 have nn:∀ a,s.heap.objs.size≤a→s.heap.get? a = none:=fun a ha=>by
  cases e:s.heap.get? a with
  | none=>rfl
  | some o=>exact absurd (Heap.lt_size e) (Nat.not_lt.mpr ha)
 refine hE _ _ h1.objs.size (Heap.get?_push_of_some _ (Heap.get?_push_of_some _ g1)) (fun b o hb e=>Heap.get?_push_of_some _ (Heap.get?_push_of_some _ (k1 b o hb e))) (nn _ (by rw [sz2]; exact Nat.le_succ _)) (nn _ (Nat.le_of_eq sz.symm)) (by rw [sz2,sz]; exact Nat.succ_ne_self _) (Heap.get?_push_of_some _ (Heap.get?_push_size _ rfl)) ⟨_,Heap.get?_push_size _ rfl,rfl,rfl,?_⟩
 show 1 < (#[_,_,_,_,_,_] ++ _:Array Value).size
 simp; dict_keeps
section
variable {n:Nat} {K:Kx} {sc:Scope} {ρ:Rho} {S:Cs}
theorem we_nextof {f:Str} {e:Expr} {fp cp pos:Pos} {Q:D→Cs→Prop} (hf:K.gl f = some (.builtin "iter"))
  (h:WE n K (CR K) sc ρ S e fun d S₁=>∃ la l,d = .ref la∧S₁ la = some (.lst l)∧∀ I m,S₁ I = none→S₁ m = none→m≠I→Q (.ref m) ((S₁.put I (.raw (iterObj la 0))).put m (.raw (nextObj I))))
  (hk:sc.names.lookup f = some .globalImplicit:=by rfl) (he:isStarred e = false:=by rfl) (hd:(f == ("__debug__":Str)) = false:=by rfl) (hb:∀ env,attributeBase (.Call (.Name f fp) [e] [] cp) "__next__" env (eval (.Call (.Name f fp) [e] [] cp) env) = eval (.Call (.Name f fp) [e] [] cp) env:=by intro o9; rfl) :
  WE n K (CR K) sc ρ S (.Attribute (.Call (.Name f fp) [e] [] cp) "__next__" pos) Q :=
 fun A G env Φ s ok I₀=>by
  rw [arm_eval_Attribute,hb]
  refine wpAny_bind ?_
  show wpAny _ _ (do callWith cp (← eval (.Name f fp) env) [] (backTo cp (starEach [e] env)) []) _ _ _
  refine wpAny_bind (wpAny_Name (loads I₀ (glob_var I₀.scp hf hk) ?_) hd)
  refine callPlain (.b _) (plain_any (by simp [he])) (star_cons he) ?_
  rw [star_cons he]
  refine spliced_cons (wpAny_mono (h A G env Φ s ok I₀) (fun v s₁ ⟨Φ₁,S₁,d,y,r,la,l,e1,hS,q⟩=>spliced_nil ?_) fun o9 o9 x=>x.elim)
  subst e1; cases r
  obtain ⟨vs,v1,v2,v3⟩:=lst_at y.inv hS
  refine call_iter_list v1 ?_
  have hn:=heap_size_none s₁.heap
  have y₁:=y.trans (cell_new (c:=.raw (iterObj la 0)) (tk:=s₁.toks) y.inv hn (fun b o e=>Heap.get?_push_of_some (iterObj la 0) e) (Heap.get?_push_size _ rfl) ⟨rfl,by simp [iterObj]⟩ (fun z=>absurd z (show ¬ (Value.type "list_iterator" == .type "dict") = true by decide)))
  refine wpAny_bind (wpAny_standAt (wpAny_bind (wpAny_holding ?_)))
  generalize hs₂:({ s₁ with heap:=s₁.heap.push (iterObj la 0),toks:=s₁.toks }:Shared) = s₂ at y₁
  have ho:s₂.heap.get? s₁.heap.objs.size = some (iterObj la 0):=by rw [← hs₂]; exact Heap.get?_push_size _ rfl
  obtain ⟨hp,g,dr,tk,os⟩:=s₂
  refine next_attr (vs:=#[.ref la,.int 0 0]) ho ?_
  have hn₂:=heap_size_none hp
  have y₂:=y₁.trans (cell_new (c:=.raw (nextObj s₁.heap.objs.size)) (tk:=tk + 1) y₁.inv hn₂ (fun b o e=>Heap.get?_push_of_some (nextObj s₁.heap.objs.size) e) (Heap.get?_push_size _ rfl) ⟨rfl,by simp [nextObj]⟩ (fun z=>absurd z (show ¬ (Value.type "method-wrapper" == .type "dict") = true by decide)))
  refine wpAny_bind (wpAny_letTemporaryGo (wpAny_pure ⟨Φ₁,_,.ref hp.objs.size,y₂,rfl,q _ _ (fresh_cell y.inv hn) ?_ ?_⟩))
  ·have:=fresh_cell y₁.inv hn₂
   have ne:hp.objs.size≠s₁.heap.objs.size:=fun z=>by rw [z] at hn₂; rw [show hp.get? s₁.heap.objs.size = _ from ho] at hn₂; (first | exact dNS hn₂ | exact dSN hn₂ | (obtain rfl:=Option.some.inj hn₂) | cases hn₂)
   exact (Cs.put_ne (S₁:Cs) _ ne).symm.trans this
  ·exact fun z=>by rw [z] at hn₂; rw [show hp.get? s₁.heap.objs.size = _ from ho] at hn₂; (first | exact dNS hn₂ | exact dSN hn₂ | (obtain rfl:=Option.some.inj hn₂) | cases hn₂)
theorem wex_next {e:Expr} {pos:Pos} {Q:D→Cs→Prop} {X:Value→List PyData→Cs→Prop}
  (h:WE n K (CR K) sc ρ S e fun d S₁=>∃ m I la i l,d = .ref m∧S₁ m = some (.raw (nextObj I))∧S₁ I = some (.raw (iterObj la i))∧S₁ la = some (.lst l) ∧
   (∀ d',l[i]? = some d'→Q d' (S₁.put I (.raw (iterObj la (i + 1)))))∧(l[i]? = none→X (.type "StopIteration") [] (S₁.put I (.raw (iterEnd i)))))
  (hc:∀ env,eval (.Call e [] [] pos) env = (do callWith pos (← eval e env) [] (backTo pos (starEach [] env)) []):=by intro o9; rfl) (hpos:0 < n:=by first | exact Nat.succ_pos _ | omega):WEX n K (CR K) sc ρ S (.Call e [] [] pos) Q X :=
 fun A G env Φ s ok I₀=>by
  rw [hc]
  refine wpAny_bind (wpAny_mono (h A G env Φ s ok I₀) (fun v s₁ hp0=>?_) fun o9 o9 x=>x.elim)
  obtain ⟨Φ₁,S₁,d,y,r,m,I,la,i,l,e1,hm,hI,hla,q,qx⟩:=hp0
  subst e1; cases r
  obtain ⟨om,m1,m2,_⟩:=cell_at y.inv hm
  subst m2
  obtain ⟨oi,i1,i2,_⟩:=cell_at y.inv hI
  subst i2
  obtain ⟨vs,v1,v2,v3⟩:=lst_at y.inv hla
  refine callWith_nx m1 (call_nx m1 ?_)
  cases hx:l[i]? with
  | some d' =>
   obtain ⟨u,u1,u2⟩:=v2.getI hx
   refine nx_item i1 v1 (x:=u) (by simpa using u1) fun h' g1 hs=>?_
   exact ⟨Φ₁,_,d',y.trans (cell_put (c':=.raw (iterObj la (i + 1))) (tk:=s₁.toks) y.inv hI (fun b o hb e=>by rw [hs.2 b hb]; exact e) g1 ⟨rfl,by simp [iterObj]⟩ (fun z=>absurd z (show ¬ (Value.type "list_iterator" == .type "dict") = true by decide))),u2,q d' hx⟩
  | none =>
   have hn:vs[i]? = none:=by
    rw [Array.getElem?_eq_none_iff,v3]; exact List.getElem?_eq_none_iff.mp hx
   refine nx_end (ok.hd hpos) i1 v1 hn fun h' ea t g1 hk hea ht hne hT hE=>?_
   obtain ⟨ws,w1,w2,w3,w4⟩:=hE
   have y₁:=y.trans (cell_put (c':=.raw (iterEnd i)) (tk:=s₁.toks) y.inv hI hk g1 ⟨rfl,by simp [iterEnd]⟩ (fun z=>absurd z (show ¬ (Value.type "list_iterator" == .type "dict") = true by decide)))
   have nI:∀ b,s₁.heap.get? b = none→¬ (CR K).fp (S₁.put I (.raw (iterEnd i))) b:=fun b hb q=>by
    obtain ⟨_,o,e,_⟩:=(CR K).there y₁.inv.rsc q
    have:b≠I:=fun z=>by rw [z,i1] at hb; (first | exact dNS hb | exact dSN hb | (obtain rfl:=Option.some.inj hb) | cases hb)
    have hb':S₁ b = none:=fresh_cell y.inv hb
    exact q ((Cs.put_ne _ _ this).trans hb')
   have hΦt:Φ₁ t = none:=none_of_fresh y.inv.froz ht
   have y₂:After K (CR K) G sc env ρ S Φ s (S₁.put I (.raw (iterEnd i))) (Φ₁.add t { cls:=.type "tuple",data:=.seq #[] }) { s₁ with heap:=h' }:=y₁.freeze I₀ (heap_none_of_step y.step ht) hT hΦt (nI t ht)
   refine ⟨ea,_,_,_,[],false,rfl,y₂,⟨?_,nI ea hea,heap_none_of_step y.step hea,_,ws,t,w1,rfl,rfl,w2,w4,?_,.inl ⟨rfl,w3⟩⟩,qx hx⟩
   ·simp only [Fz.add,if_neg hne]; exact none_of_fresh y.inv.froz hea
   ·exact ⟨t,_,_,_,rfl,Fz.add_self ..,⟨rfl,rfl,rfl⟩,rfl,rfl⟩
end
theorem PairsRep.getI {Φ:Fz} {l:List (Ky×D)}:∀ {kvs:List (Ky×Value)} {i:Nat} {k:Ky} {v:Value},PairsRep Φ l kvs→kvs[i]? = some (k,v)→∃ d,l[i]? = some (k,d)∧Rep Φ d v:=by
 induction l with
 | nil =>
  rintro o9 o9 o9 o9 h e
  cases h; simp at e
 | cons hdz l ih =>
  obtain ⟨j,d⟩:=hdz
  rintro o9 i k v ⟨u,r,e1,h1,h2⟩ e
  subst e1
  cases i with
  | zero=>simp at e; obtain ⟨rfl,rfl⟩:=e; exact ⟨d,rfl,h1⟩
  | succ i=>simpa using ih h2 (by simpa using e)
section
variable {n:Nat} {K:Kx} {sc:Scope} {ρ:Rho} {S:Cs}
structure PinMap (K:Kx) (S:Cs) (a:Addr) (l:List (Ky×D)):Prop where
 ns:a≠sysModules
 at_:∃ o,S a = some (.raw o)∧∀ Φ,CellOk K Φ o (.map l)
theorem PinMap.isMap {a:Addr} {l:List (Ky×D)} (h:PinMap K S a l):IsMap K S a l:=.inr ⟨h.ns,h.at_⟩
theorem src_keys {Φ:Fz} {a I:Addr} {kvs:List (Ky×Value)} {l:List (Ky×D)} {W:Addr→Prop} {fz:Sk} {ep:Nat} (hne:a≠I) (hr:PairsRep Φ l kvs) :
  Src K W Φ I (l.map fun x=>.py x.1.d) fz [I,a] (fun i h=>h.IsKeyIter I a i kvs.length ep∧h.DictAt (kyKind K.prog K.w) a kvs ep) where
 walks:=fun A hh=>by
  have:=Walks.dictKeys (prog:=K.prog) (w:=K.w) (knd:=kyKind K.prog K.w) hh I a hne kvs ep
  rw [List.length_map,← hr.length]
  exact walks_imp this fun i v o9 hp0=>by
   obtain ⟨k,x,h1,h2⟩:=hp0
   obtain ⟨d,h3,_⟩:=hr.getI h1
   exact ⟨.py k.d,by simp [h3],Ky.is_iff.mp h2⟩
 kind:=fun i h st=>by
  obtain ⟨⟨o,h1,h2,h3⟩,_⟩:=st
  exact ⟨o,_,_,h1,h2,rfl,h3⟩
 nofr:=fun i h st b hb=>by
  obtain ⟨⟨o,h1,h2,h3⟩,o',es,h1',h2',_⟩:=st
  simp at hb
  rcases hb with rfl | rfl
  ·exact ⟨o,h1,by rw [h2]; decide⟩
  ·exact ⟨o',h1',by rw [h2'.1]; decide⟩
theorem src_values {Φ:Fz} {a I:Addr} {kvs:List (Ky×Value)} {l:List (Ky×D)} {W:Addr→Prop} {fz:Sk} {ep:Nat} (hne:a≠I) (hr:PairsRep Φ l kvs) :
  Src K W Φ I (l.map (·.2)) fz [I,a] (fun i h=>h.IsValIter I a i kvs.length ep∧h.DictAt (kyKind K.prog K.w) a kvs ep) where
 walks:=fun A hh=>by
  have:=Walks.dictValues (prog:=K.prog) (w:=K.w) (knd:=kyKind K.prog K.w) hh I a hne kvs ep
  rw [List.length_map,← hr.length]
  exact walks_imp this fun i v o9 hp0=>by
   obtain ⟨k,h1⟩:=hp0
   obtain ⟨d,h3,h4⟩:=hr.getI h1
   exact ⟨d,by simp [h3],h4⟩
 kind:=fun i h st=>by
  obtain ⟨⟨o,h1,h2,h3⟩,_⟩:=st
  exact ⟨o,_,_,h1,h2,rfl,h3⟩
 nofr:=fun i h st b hb=>by
  obtain ⟨⟨o,h1,h2,h3⟩,o',es,h1',h2',_⟩:=st
  simp at hb
  rcases hb with rfl | rfl
  ·exact ⟨o,h1,by rw [h2]; decide⟩
  ·exact ⟨o',h1',by rw [h2'.1]; decide⟩
theorem wi_keys {e:Expr} {a:Addr} {l:List (Ky×D)} {Q:List D→Cs→Prop} (h:WE n K (CR K) sc ρ S e fun d S₁=>d = .ref a∧PinMap K S₁ a l∧Q (l.map fun x=>.py x.1.d) S₁):WI n K (CR K) sc ρ S e (.pin a) Q :=
 fun A G env Φ s ok I=>wpAny_mono (h A G env Φ s ok I) (fun x s₁ hp0=>by
  obtain ⟨Φ₁,S₁,d,y,r,e,hp,q⟩:=hp0
  subst e; cases r
  obtain ⟨kvs,m1,m2,m3⟩:=hp.isMap.at y.inv
  obtain ⟨ep,m1⟩:=m1.dictAt
  obtain ⟨ns,o,h1,h2⟩:=hp
  have hn:=heap_size_none s₁.heap
  have hax:a≠s₁.heap.objs.size:=Nat.ne_of_lt m1.lt_size
  have st:=step_push { cls:=.type "dict_keyiterator",data:=.fields #[.ref a,.int 0 0,.int kvs.length 0,.int ep 0] } y.inv.froz
  refine wpAny_pyIter_dict m3 m1 ⟨Φ₁,_,_,_,_,_,y.pure st,rfl,heap_none_of_step y.step hn,none_of_fresh y.inv.froz hn,fp_fresh y.inv hn,⟨src_keys hax m2,⟨⟨_,Heap.get?_push_size _ rfl,rfl,rfl⟩,m1.push _⟩,fun b hb=>?_⟩,q⟩
  simp at hb
  rcases hb with rfl | rfl
  ·exact .inl rfl
  ·exact .inr (.inr (.inr ⟨rfl,o,pin_raw h1⟩))) fun o9 o9 x=>x.elim
theorem wi_values {o:Expr} {ap cp:Pos} {a:Addr} {l:List (Ky×D)} {Q:List D→Cs→Prop} (h:WE n K (CR K) sc ρ S o fun d S₁=>d = .ref a∧PinMap K S₁ a l∧Q (l.map (·.2)) S₁) (hline:(ap.endLine == cp.line) = true:=by rfl) (hb:∀ env,attributeBase o "values" env (eval o env) = eval o env:=by intro o9; rfl) :
  WI n K (CR K) sc ρ S (.Call (.Attribute o "values" ap) [] [] cp) (.pin a) Q :=
 fun A G env Φ s ok I=>by
  refine wpAny_Call_method (hb env) rfl hline F.plainAttrs_dict F.slot_dict_values F.type_dict_values (wpAny_mono (h A G env Φ s ok I) (fun v s₁ hp0=>?_) fun o9 o9 x=>x.elim)
  obtain ⟨Φ₁,S₁,d,y,r,e1,hp,q⟩:=hp0
  subst e1; cases r
  obtain ⟨kvs,m1,m2,m3⟩:=hp.isMap.at y.inv
  obtain ⟨ep,m1'⟩:=m1.dictAt
  obtain ⟨od,o1,o2⟩:∃ ob,s₁.heap.get? a = some ob∧ob.dict = none:=by
   obtain ⟨ob,_,_,ho,hc,_⟩:=m1; exact ⟨ob,ho,hc.2.1⟩
  refine ⟨m1.typeIs,fun b eb=>by cases eb; exact ⟨od,o1,o2⟩,?_⟩
  refine arg0 (call_meetsIn F.slot_dict_values m1.typeIs F.entry_dict_values (F.args_dict_values_1 _) (meets_dict_values (kyKind K.prog K.w) a m3) ⟨⟨kvs,m1⟩,?_⟩)
  obtain ⟨ns,o,h1,h2⟩:=hp
  have st:=step_push { cls:=.type "dict_values",data:=.fields #[.ref a] } y.inv.froz
  have y₁:=y.pure st
  have hv:(s₁.heap.push { cls:=.type "dict_values",data:=.fields #[.ref a] }).IsValuesView s₁.heap.objs.size a:=⟨_,Heap.get?_push_size _ rfl,rfl,rfl⟩
  have m1'':=m1'.push { cls:=.type "dict_values",data:=.fields #[.ref a] }
  have hn:=heap_size_none (s₁.heap.push { cls:=.type "dict_values",data:=.fields #[.ref a] })
  have hax:a≠(s₁.heap.push { cls:=.type "dict_values",data:=.fields #[.ref a] }).objs.size:=Nat.ne_of_lt m1''.lt_size
  have st':=step_push { cls:=.type "dict_valueiterator",data:=.fields #[.ref a,.int 0 0,.int kvs.length 0,.int ep 0] } y₁.inv.froz
  refine wpAny_pyIter_values (s:={ s₁ with heap:=s₁.heap.push { cls:=.type "dict_values",data:=.fields #[.ref a] } }) hv m1'' ⟨Φ₁,_,_,_,_,_,y₁.pure st',rfl,heap_none_of_step y₁.step hn,none_of_fresh y₁.inv.froz hn,fp_fresh y₁.inv hn,⟨src_values hax m2,⟨⟨_,Heap.get?_push_size _ rfl,rfl,rfl⟩,m1''.push _⟩,fun b hb=>?_⟩,q⟩
  rcases List.mem_cons.mp hb with hb | hb
  ·exact .inl hb
  ·have:=List.mem_singleton.mp hb
   subst this
   exact .inr (.inr (.inr ⟨rfl,o,pin_raw h1⟩))
end
section
variable {n:Nat} {K:Kx} {R:Rsc} {sc:Scope} {ρ:Rho} {S:R.σ}
theorem wt_and_nil {pos:Pos} {Q:Bool→R.σ→Prop} (q:Q true S):WT n K R sc ρ S (.BoolOp .And [] pos) Q :=
 fun A G env Φ s ok I=>isTrue_and_nil ⟨Φ,S,.refl I,q⟩
theorem wt_or_nil {pos:Pos} {Q:Bool→R.σ→Prop} (q:Q false S):WT n K R sc ρ S (.BoolOp .Or [] pos) Q :=
 fun A G env Φ s ok I=>isTrue_or_nil ⟨Φ,S,.refl I,q⟩
theorem isTrue_and_whole {rest:List Expr} {pos:Pos} {env:Env} {t t':Sem Value}:isTrue (.BoolOp .And rest pos) env t = isTrue (.BoolOp .And rest pos) env t':=by
 cases rest <;> rfl
theorem isTrue_or_whole {rest:List Expr} {pos:Pos} {env:Env} {t t':Sem Value}:isTrue (.BoolOp .Or rest pos) env t = isTrue (.BoolOp .Or rest pos) env t':=by
 cases rest <;> rfl
theorem wt_and {e:Expr} {rest:List Expr} {pos:Pos} {Q:Bool→R.σ→Prop} (h:WT n K R sc ρ S e fun b S₁=>if b then WT n K R sc ρ S₁ (.BoolOp .And rest pos) Q else Q false S₁):WT n K R sc ρ S (.BoolOp .And (e :: rest) pos) Q :=
 fun A G env Φ s ok I=>isTrue_and (wpAny_mono (h A G env Φ s ok I) (fun b s₁ hp0=>by
  obtain ⟨Φ₁,S₁,y₁,q⟩:=hp0
  cases b with
  | false=>simp only [Bool.false_eq_true,if_false] at q ⊢; exact ⟨Φ₁,S₁,y₁,q⟩
  | true =>
   simp only [if_true] at q ⊢
   rw [isTrue_and_whole (t':=eval (.BoolOp .And rest pos) env)]
   exact wpAny_mono (q A G env Φ₁ s₁ ok y₁.inv) (fun v s₂ hp0=>by obtain ⟨Φ₂,S₂,y₂,q⟩:=hp0; exact ⟨Φ₂,S₂,y₁.trans y₂,q⟩) fun o9 o9 x=>x) fun o9 o9 x=>x)
theorem wt_or {e:Expr} {rest:List Expr} {pos:Pos} {Q:Bool→R.σ→Prop} (h:WT n K R sc ρ S e fun b S₁=>if b then Q true S₁ else WT n K R sc ρ S₁ (.BoolOp .Or rest pos) Q):WT n K R sc ρ S (.BoolOp .Or (e :: rest) pos) Q :=
 fun A G env Φ s ok I=>isTrue_or (wpAny_mono (h A G env Φ s ok I) (fun b s₁ hp0=>by
  obtain ⟨Φ₁,S₁,y₁,q⟩:=hp0
  cases b with
  | true=>simp only [if_true] at q ⊢; exact ⟨Φ₁,S₁,y₁,q⟩
  | false =>
   simp only [Bool.false_eq_true,if_false] at q ⊢
   rw [isTrue_or_whole (t':=eval (.BoolOp .Or rest pos) env)]
   exact wpAny_mono (q A G env Φ₁ s₁ ok y₁.inv) (fun v s₂ hp0=>by obtain ⟨Φ₂,S₂,y₂,q⟩:=hp0; exact ⟨Φ₂,S₂,y₁.trans y₂,q⟩) fun o9 o9 x=>x) fun o9 o9 x=>x)
theorem cv_sum {l:List Int} (hpos:0 < n:=by first | exact Nat.succ_pos _ | omega):CallV n K (.builtin "sum") [.lst (l.map PyData.int)] (.int l.sum):=fun A Φ s W vs ok F rr Q E h=>by
 obtain ⟨v,rfl,r⟩:=rr.one
 obtain ⟨a,items,rfl,hl,hr⟩:=r.lst' F.froz
 have hsz:=size_eq hr
 have hn:=heap_size_none s.heap
 have hax:a≠s.heap.objs.size:=by obtain ⟨o,ho,_⟩:=hl; exact Nat.ne_of_lt (Heap.lt_size ho)
 refine call_sum_walkG (wpAny_pyIter_list hl ?_)
 have W0:=Walks.list (prog:=K.prog) (w:=K.w) (A:=A.in1) (ok.hd hpos) s.heap.objs.size a hax items
 refine ⟨s.heap.objs.size,_,_,_,_,_,fun i=>l.getD i 0,rfl,W0,⟨⟨_,Heap.get?_push_size _ rfl,rfl,rfl⟩,hl.push _⟩,?_,?_,?_⟩
 ·intro b hb
  simp only [List.mem_cons,List.not_mem_nil,or_false] at hb
  rw [Heap.size_push]
  rcases hb with rfl | rfl
  ·exact Nat.lt_succ_self _
  ·obtain ⟨o,ho,_⟩:=hl; exact Nat.lt_succ_of_lt (Heap.lt_size ho)
 ·intro i v hv
  have hv':items.toList[i]? = some v:=by simpa using hv
  obtain ⟨d,hd,hdv⟩:=Reps.getV hr hv'
  rw [List.getElem?_map] at hd
  cases q:l[i]? with
  | none=>rw [q] at hd; (first | exact dNS hd | exact dSN hd | (obtain rfl:=Option.some.inj hd) | cases hd)
  | some z =>
   rw [q] at hd; (first | exact dNS hd | exact dSN hd | (obtain rfl:=Option.some.inj hd) | cases hd)
   obtain ⟨t,rfl⟩:=hdv
   exact ⟨t,by simp [q]⟩
 ·intro h' tk t' hk
  have e:preSum (fun i=>l.getD i 0) items.size = l.sum:=by
   rw [preSum_getD,hsz,List.length_map,List.take_length]
  rw [e]
  refine h _ Φ _ (?_:Step NoW Φ s Φ { s with heap:=h',toks:=tk }) ((by first | exact rfl | exact ⟨_,rfl⟩))
  refine .of_keeps F.froz fun b o e=>hk b o ?_ (Heap.get?_push_of_some _ e)
  simp only [List.mem_cons,List.not_mem_nil,or_false]
  rintro rfl; rw [hn] at e; (first | exact dNS e | exact dSN e | (obtain rfl:=Option.some.inj e) | cases e)
end
section
variable {n:Nat} {K:Kx} {R:Rsc} {sc:Scope} {ρ:Rho} {S:R.σ} {e:Expr}
end
section
variable {n:Nat} {K:Kx} {R:Rsc} {G:Ent} {sc:Scope} {env:Env} {ρ ρc:Rho} {S:R.σ} {Φ Φ₀:Fz} {s s₀:Shared} {a:Addr}
variable {α:Type}
theorem AfterS.other {ρ₁:Rho} {S₁:R.σ} {Φ₁:Fz} {s₁:Shared} {h':Heap} {p:Addr} (I:Inv K R G sc env ρ S Φ s) (x:AfterS K R G sc env ρ S Φ s ρ₁ S₁ Φ₁ s₁) (hs:Heap.SameBut p s₁.heap h') (hn:s.heap.get? p = none) (hΦ:Φ₁ p = none) (hfp:¬ R.fp S₁ p)
  (hne:p≠env.locals) (hd:∃ o es ep,s₁.heap.get? p = some o∧o.data = .dict es ep):AfterS K R G sc env ρ S Φ s ρ₁ S₁ Φ₁ { s₁ with heap:=h' }:=by
 obtain ⟨o,es,ep,ho,hd⟩:=hd
 have hk:∀ b o,b≠p→s₁.heap.get? b = some o→h'.get? b = some o:=fun b o hb e=>by rw [hs.2 b hb]; exact e
 have hC:=x.inv.cells_ne ho (by first | exact nCF hd | exact nCD hd | exact nCS hd | (rw [hd]; intro o9 q; cases q))
 have hO:=x.inv.own_ne ho (by first | exact nDF hd | exact nSF hd | exact nSD hd | exact nDS hd | (rw [hd]; intro o9 o9 q; cases q))
 have hG:=I.gone hn
 have fz:∀ a o,Φ₁ a = some o→h'.get? a = some o:=fun a o e=>hk a o (fun z=>by rw [z,hΦ] at e; (first | exact dNS e | exact dSN e | (obtain rfl:=Option.some.inj e) | cases e)) (x.inv.froz a o e)
 have st:∀ {W:Addr→Prop} {Φ₀:Fz} {s₀:Shared},s₀.heap.get? p = none→Step W Φ₀ s₀ Φ₁ s₁→Step W Φ₀ s₀ Φ₁ { s₁ with heap:=h' }:=fun {W Φ₀ s₀} hp st=>⟨st.gens,st.os,fun b ob e=>by
  obtain ⟨o',e',q⟩:=st.keep b ob e
  exact ⟨o',hk b o' (fun z=>by rw [z,hp] at e; (first | exact dNS e | exact dSN e | (obtain rfl:=Option.some.inj e) | cases e)) e',q⟩,st.le,st.new,fz,fun b ob e f=>by
  obtain ⟨o₁,e₁,f₁⟩:=st.fr b ob e f
  exact ⟨o₁,hk b o₁ (fun z=>by rw [z,hp] at e; (first | exact dNS e | exact dSN e | (obtain rfl:=Option.some.inj e) | cases e)) e₁,f₁⟩⟩
 have hv:∀ y u,VarIs K env s₁.heap y u→VarIs K env h' y u:=fun y u h=>by
  rcases h with ⟨k,m,hn,hm⟩ | ⟨k,c,h1c,oc,hoc,hdc⟩ | h
  ·exact .inl ⟨k,m,hn.at' fun o e=>hk _ o (Ne.symm hne) e,hm⟩
  ·exact .inr (.inl ⟨k,c,h1c,oc,hk _ oc (hC _ _ h1c) hoc,hdc⟩)
  ·exact .inr (.inr h)
 refine ⟨⟨x.inv.base,fz,x.inv.scp,x.inv.kind,x.inv.globs,x.inv.blts,?_,x.inv.nsΦ,x.inv.nsW,x.inv.nsG,fun y c hy=>?_,x.inv.celG,x.inv.celA,x.inv.celD,fun y d hy=>?_,?_,R.stable x.inv.rsc (fun b ob e hf=>hk b ob (fun z=>hfp (z ▸ hf)) e) (Le.refl _) fun b hf=>(R.there x.inv.rsc hf).no',st hG x.inv.step0,x.inv.fpG,fun e he=>?_⟩,st hn x.step,fun b ⟨y,es',h1,h2⟩=>x.own b ⟨y,es',h1,?_⟩,x.fp⟩
 ·obtain ⟨m,hm⟩:=x.inv.ns
  exact ⟨m,hm.at' fun o e=>hk _ o (Ne.symm hne) e⟩
 ·obtain ⟨⟨v,oc,hoc,hdc⟩,h2⟩:=x.inv.cel y c hy
  exact ⟨⟨v,oc,hk _ oc (hC _ _ hy) hoc,hdc⟩,h2⟩
 ·obtain ⟨v,h1,h2⟩:=x.inv.vals y d hy
  exact ⟨v,hv y v h1,h2⟩
 ·obtain ⟨ad,h1,h2⟩:=x.inv.owns
  refine ⟨ad,fun y ds hy=>?_,h2⟩
  obtain ⟨a1,⟨f,oo,vs,m,hoo,r1,r2,r3⟩,a3,a4⟩:=h1 y ds hy
  exact ⟨hv y _ a1,⟨f,oo,vs,m,hk _ oo (hO y ds _ hy a1) hoo,r1,r2,r3⟩,a3,a4⟩
 ·obtain ⟨h1,L,oL,h2,h3,h4,h5,h6⟩:=x.inv.frs e he
  obtain ⟨_,L',oL',h2',_,_,h5',_⟩:=I.frs e he
  rw [h2] at h2'; (first | exact dNS h2' | exact dSN h2' | (obtain rfl:=Option.some.inj h2') | cases h2')
  exact ⟨h1,L,oL,h2,h3,h4,hk L oL (fun z=>by rw [z,hn] at h5'; (first | exact dNS h5' | exact dSN h5' | (obtain rfl:=Option.some.inj h5') | cases h5')) h5,h6⟩
 ·obtain ⟨ad,q,_⟩:=x.inv.owns
  obtain ⟨a1,_⟩:=q y es' h1
  have:=VarIs.inj h2 (hv y _ a1)
  (first | (obtain rfl:=Value.ref.inj this) | cases this); exact a1
theorem comp_used {A:Around} {x:Str} {p:Pos} {cenv:Env} {Φ':Fz} {s':Shared} {ys:List PyData} {scc:Scope} {G':Ent} {Q:Fl→Rho→R.σ→Prop} (hm:FnG G env) (I:Inv K R G sc env ρ S Φ s) (hx:isVar sc x = true) (C:CI K R G' scc cenv ρc S Φ s a ys Φ' s') (q:Q .next ((x,.own ys) :: ρ) S) :
  compPost K.M A (fun o9 o9=>False) (some (assign (.Name x p) env)) (fun o9 s''=>PS K R G sc env ρ S Φ s Q .next s'') (.ref a) cenv.locals (.ok .next) s':=by
 obtain ⟨y,o,f,e⟩:=comp_after (h':=s'.heap) I C (Heap.SameBut.refl ..)
 obtain ⟨m,hn⟩:=C.inv.ns
 show wpAny K.M A (assign (.Name x p) env (.ref a)) _ _ s'
 have hne:cenv.locals≠env.locals:=fun z=>by
  obtain ⟨_,om,_,_,hom,_⟩:=I.ns
  have:=C.locN
  rw [z,hom] at this; (first | exact dNS this | exact dSN this | (obtain rfl:=Option.some.inj this) | cases this)
 have hcne:∀ z,env.cells.lookup z≠some cenv.locals:=fun z hz=>by
  obtain ⟨⟨v,oc,hoc,_⟩,_⟩:=I.cel z _ hz
  have:=C.locN
  rw [hoc] at this; (first | exact dNS this | exact dSN this | (obtain rfl:=Option.some.inj this) | cases this)
 refine wpAny_assign_Name (stored y.inv (isVar_or hx) (hm.mine x) fun s₂ X=>?_)
 have af:=own_of_new I (After.stmt I y) o f e (own_stay I y) X
 have hdict:∃ o es ep,s₂.heap.get? cenv.locals = some o∧o.data = .dict es ep:=by
  obtain ⟨oo,es,ep,hoo,hd,_⟩:=hn
  obtain ⟨o',e',q'⟩:=X.step.keep _ _ hoo
  have:¬ Place env x cenv.locals:=by
   rintro (z | z)
   ·exact hne z
   ·exact hcne x z
  rcases q' this with rfl | ⟨_,sl,rfl⟩
  ·exact ⟨_,es,ep,e',hd⟩
  ·exact ⟨_,es,ep,e',hd⟩
 have hns:∃ m,s₂.heap.Ns cenv.locals m:=⟨m,Ns.of_step X.step hn (by
   rintro (z | z)
   ·exact hne z
   ·exact hcne x z)⟩
 obtain ⟨m',hn'⟩:=hns
 refine ⟨m',hn',fun h'' hs''=>⟨Φ',_,S,.next,AfterS.other I af hs'' C.locN C.inv.nsΦ C.inv.nsW hne hdict,trivial,q⟩⟩
theorem wx_assignCE {x:Str} {xp spos:Pos} {elt target iter:Expr} {ifs:List Expr} {scope:Scope} {pos:Pos} {Q:Fl→Rho→R.σ→Prop} {fz:Sk} (ρc:Rho) (l:List α) (enc:α→D) (g:α→List PyData) (ρ':α→Rho)
  (hsrc:WIE n K R sc ρ S iter fz target fun ds' S'=>S' = S∧ds' = l.map enc) (hρ:RhoIn scope sc ρ ρc)
  (inj:∀ x∈l,∀ y∈l,enc x = enc y→g x = g y)
  (tg:∀ x∈l,Tgt n K R (relabelS scope sc) (mineOf scope) target (enc x) ρc (ρ' x)) (em:∀ x∈l,Emits n K R (relabelS scope sc) (ρ' x) S ifs elt (g x)) (hsz:(l.flatMap g).length≤sizeLine)
  (q:Q .next ((x,.own (l.flatMap g)) :: ρ) S) (hx:isVar sc x = true:=by rfl) (hsc:scopeOk scope sc = true:=by rfl) (hsw:∀ env,env.scope = sc→sc.kind = .function→swapsWith (.ListComp elt [⟨target,iter,ifs,0⟩] scope pos) (some (.Name x xp)) spos.line env = pure true)
  (hs:∀ env x,foldedSetIterable iter env x = pure x:=by intro o9 o9; rfl) (hpos:0 < n:=by first | exact Nat.succ_pos _ | omega):WX n K R sc ρ S (.Assign [.Name x xp] (.ListComp elt [⟨target,iter,ifs,0⟩] scope pos) spos) Q :=
 fun A G env Φ s ok hm I=>by
  rw [exec_Assign_Name_used _ _ _ _ (hsw env I.scp I.kind)]
  refine wpAny_bind (wpAny_standAt (wpAny_bind ?_))
  show wpAny _ A (do let _ ← comprehension (.ListComp elt [⟨target,iter,ifs,0⟩] scope pos) scope env _ (newList []) false (eval iter env) (some (assign (.Name x xp) env))) _ _ s
  refine wpAny_bind (wpAny_mono (comp1 (E:=fun o9 o9=>False) ok hpos I (ScopeOk.of hsc) hsrc hρ hs inj tg em hsz fun cenv a Φ' s' C=>comp_used hm I hx C q) (fun o9 s' h=>wpAny_pure (wpAny_pure h)) fun o9 o9 x=>x.elim)
end
section
variable {n:Nat} {K:Kx} {R:Rsc} {sc:Scope} {ρ:Rho} {S:R.σ}
end
theorem fits_long {i:Int} (h1:-1000000≤i) (h2:i≤1000000):Builtin.Range.rangeFitsLong i = true:=by
 unfold Builtin.Range.rangeFitsLong
 simp only [Bool.and_eq_true,decide_eq_true_eq]
 dict_keeps
theorem range_up {a b:Nat} (ha:a≤100000) (hb:b≤100000):Builtin.Range.small (a:Int) (b:Int) 1 = true∧rangeL (a:Int) (b:Int) 1 = (List.range (b - a)).map fun i:Nat=>((a + i:Nat):Int):=by
 have hs:Builtin.Range.rangeSize (a:Int) (b:Int) 1 = ((b - a:Nat):Int):=by
  unfold Builtin.Range.rangeSize
  simp only [gt_iff_lt,Int.zero_lt_one,if_true,Int.ediv_one]
  split <;> dict_keeps
 constructor
 ·unfold Builtin.Range.small
  rw [hs,fits_long (by dict_keeps) (by dict_keeps),fits_long (by dict_keeps) (by dict_keeps),fits_long (i:=1) (by dict_keeps) (by dict_keeps),fits_long (by dict_keeps) (by dict_keeps)]
  simp only [gt_iff_lt,Int.zero_lt_one,if_true,Bool.true_and]
  rw [fits_long (by dict_keeps) (by dict_keeps)]; simp
 ·unfold rangeL
  rw [hs,Int.toNat_natCast]
  refine List.map_congr_left fun i o9=>?_
  dict_keeps
section
variable {n:Nat} {K:Kx} {R:Rsc} {sc:Scope} {ρ:Rho} {S:R.σ}
inductive RngQ {σ:Type} (Q:Nat→σ→Prop) (d:D) (S:σ):Prop
 | mk (b:Nat) (e:d = .int b) (h:b≤100000) (q:Q b S)
theorem wi_range1 {f:Str} {e:Expr} {fp pos:Pos} {k:Sk} {Q:List D→R.σ→Prop} (hf:K.gl f = some (.type "range")) (h:WE n K R sc ρ S e (RngQ fun b=>Q ((List.range b).map fun i:Nat=>.int i)))
  (hk:sc.names.lookup f = some .globalImplicit:=by rfl) (he:isStarred e = false:=by rfl) (hd:(f == ("__debug__":Str)) = false:=by rfl):WI n K R sc ρ S (.Call (.Name f fp) [e] [] pos) k Q:=by
 refine wi_rng (we_call hf (wrs_cons (WE.weak (h.mono fun d S₁ ⟨b,e1,hb,q⟩=>wrs_nil ?_)) (fun env=>star_cons he)) (.t _) hk (by simp [he]) hd)
 subst e1
 obtain ⟨s1,s2⟩:=range_up (a:=0) (b:=b) (by dict_keeps) hb
 refine ⟨_,cv_range1,0,b,1,rfl,s1,?_⟩
 have e:(rangeL 0 (b:Int) 1).map D.int = (List.range b).map fun i:Nat=>.int i:=by
  have:(rangeL 0 (b:Int) 1) = (List.range b).map fun i:Nat=>((i:Nat):Int):=by
   have:=s2; simpa using this
  rw [this,List.map_map]; rfl
 rw [e]; exact q
theorem wi_range2 {f:Str} {e e':Expr} {fp pos:Pos} {k:Sk} {Q:List D→R.σ→Prop} (hf:K.gl f = some (.type "range")) (h:WE n K R sc ρ S e fun d S₁=>WE n K R sc ρ S₁ e' fun d' S₂=>∃ a b:Nat,d = .int a∧d' = .int b∧a≤100000∧b≤100000∧Q ((List.range (b - a)).map fun i:Nat=>.int ((a + i:Nat):Int)) S₂)
  (hk:sc.names.lookup f = some .globalImplicit:=by rfl) (he:isStarred e = false:=by rfl) (he':isStarred e' = false:=by rfl) (hd:(f == ("__debug__":Str)) = false:=by rfl):WI n K R sc ρ S (.Call (.Name f fp) [e,e'] [] pos) k Q:=by
 refine wi_rng (we_call hf (wrs_cons (WE.weak (h.mono fun d S₁ w=>wrs_cons (WE.weak (w.mono fun d' S₂ ⟨a,b,e1,e2,ha,hb,q⟩=>wrs_nil ?_)) (fun env=>star_cons he'))) (fun env=>star_cons he)) (.t _) hk (by simp [he,he']) hd)
 subst e1 e2
 obtain ⟨s1,s2⟩:=range_up (a:=a) (b:=b) ha hb
 refine ⟨_,cv_range2,a,b,1,rfl,s1,?_⟩
 rw [s2,List.map_map]; exact q
end
section
variable {n:Nat} {K:Kx} {R:Rsc} {sc:Scope} {ρ:Rho} {S:R.σ}
end
section
variable {n:Nat} {K:Kx}
end
section
variable {n:Nat} {K:Kx} {R:Rsc} {sc:Scope} {ρ:Rho} {S:R.σ}
end
structure TOk (b:Bool) (t:SetTable):Prop where
 rise:t.place.toList.Pairwise (· < ·)
 dum:t.dummies = #[]
 led:t.led = b
structure Low (xs:List Nat) (j r:Nat):Prop where
 le:r≤xs.length
 lo:∀ i x,i < r→xs[i]? = some x→x < j
 hi:∀ i x,r≤i→xs[i]? = some x→j≤x
theorem Low.uniq {xs:List Nat} {j r r':Nat} (h:Low xs j r) (h':Low xs j r'):r = r':=by
 have one:∀ {r r':Nat},Low xs j r→Low xs j r'→¬ r < r':=fun {r r'} h h' hlt=>by
  have hx:=List.getElem?_eq_getElem (Nat.lt_of_lt_of_le hlt h'.le)
  exact absurd (h'.lo r _ hlt hx) (Nat.not_lt.mpr (h.hi r _ (Nat.le_refl _) hx))
 exact Nat.le_antisymm (Nat.not_lt.mp (one h' h)) (Nat.not_lt.mp (one h h'))
theorem pw_get {xs:List Nat} (h:xs.Pairwise (· < ·)) {i k x y:Nat} (hik:i < k) (hx:xs[i]? = some x) (hy:xs[k]? = some y):x < y:=by
 obtain ⟨hi,rfl⟩:=List.getElem?_eq_some_iff.mp hx
 obtain ⟨hk,rfl⟩:=List.getElem?_eq_some_iff.mp hy
 exact List.pairwise_iff_getElem.mp h i k hi hk hik
theorem half_in {l r:Nat} (h:l < r):l≤(l + r) / 2∧(l + r) / 2 < r :=
 ⟨(Nat.le_div_iff_mul_le Nat.two_pos).mpr (Nat.mul_two l ▸ Nat.add_le_add_left (Nat.le_of_lt h) l),(Nat.div_lt_iff_lt_mul Nat.two_pos).mpr (Nat.mul_two r ▸ Nat.add_lt_add_right h r)⟩
theorem below_go {xs:Array Nat} {j:Nat} (hp:xs.toList.Pairwise (· < ·)):∀ (fuel lo hi:Nat),hi≤xs.toList.length→hi≤lo + fuel→lo≤hi →
  (∀ i x,i < lo→xs.toList[i]? = some x→x < j)→(∀ i x,hi≤i→xs.toList[i]? = some x→j≤x)→Low xs.toList j (SetTable.below.go xs j fuel lo hi):=by
 intro fuel
 induction fuel with
 | zero =>
  intro lo hi h1 h2 h3 h4 h5
  exact ⟨Nat.le_trans h3 h1,h4,fun i x q=>h5 i x (Nat.le_trans h2 q)⟩
 | succ fuel ih =>
  intro lo hi h1 h2 h3 h4 h5
  show Low xs.toList j (if lo < hi then (if xs.getD ((lo + hi) / 2) j < j then SetTable.below.go xs j fuel ((lo + hi) / 2 + 1) hi else SetTable.below.go xs j fuel lo ((lo + hi) / 2)) else lo)
  by_cases hlt:lo < hi
  ·rw [if_pos hlt]
   obtain ⟨hm1,hm2⟩:=half_in hlt
   generalize (lo + hi) / 2 = mid at hm1 hm2
   have hm3:=Nat.lt_of_lt_of_le hm2 h1
   have hx:xs.toList[mid]? = some (xs.getD mid j):=by
    rw [Array.getElem?_toList,Array.getD_eq_getD_getElem?,Array.getElem?_eq_getElem hm3]; rfl
   by_cases hc:xs.getD mid j < j
   ·rw [if_pos hc]
    refine ih _ _ h1 (Nat.le_trans h2 (Nat.le_trans (Nat.succ_le_succ (Nat.add_le_add_right hm1 fuel)) (Nat.le_of_eq (Nat.succ_add mid fuel).symm))) hm2 (fun i x hi' hx'=>?_) h5
    rcases Nat.lt_or_eq_of_le (Nat.le_of_lt_succ hi') with h | rfl
    ·exact Nat.lt_trans (pw_get hp h hx' hx) hc
    ·exact Option.some.inj (hx.symm.trans hx') ▸ hc
   ·rw [if_neg hc]
    refine ih _ _ (Nat.le_of_lt hm3) (Nat.le_of_lt_succ (Nat.lt_of_lt_of_le hm2 h2)) hm1 h4 (fun i x hi' hx'=>?_)
    rcases Nat.lt_or_eq_of_le hi' with h | rfl
    ·exact Nat.le_of_lt (Nat.lt_of_le_of_lt (Nat.not_lt.mp hc) (pw_get hp h hx hx'))
    ·exact Option.some.inj (hx.symm.trans hx') ▸ Nat.not_lt.mp hc
  ·rw [if_neg hlt]
   exact ⟨Nat.le_trans h3 h1,h4,fun i x q=>h5 i x (Nat.le_trans (Nat.not_lt.mp hlt) q)⟩
theorem below_low {xs:Array Nat} (hp:xs.toList.Pairwise (· < ·)) (j:Nat):Low xs.toList j (SetTable.below xs j) :=
 below_go hp _ _ _ (Nat.le_refl _) (Nat.le_add_left _ _) (Nat.zero_le _) (fun o9 o9 h=>absurd h (Nat.not_lt_zero _)) fun i x h hx=>dNS ((List.getElem?_eq_none h).symm.trans hx)
theorem below_next {xs:Array Nat} (hp:xs.toList.Pairwise (· < ·)) {i x:Nat} (hx:xs.toList[i]? = some x):SetTable.below xs (x + 1) = i + 1:=by
 refine (below_low hp _).uniq ⟨(List.getElem?_eq_some_iff.mp hx).1,fun k y hk hy=>?_,fun k y hk hy=>pw_get hp hk hx hy⟩
 rcases Nat.lt_or_eq_of_le (Nat.le_of_lt_succ hk) with h | rfl
 ·exact Nat.lt_succ_of_lt (pw_get hp h hy hx)
 ·exact Option.some.inj (hx.symm.trans hy) ▸ Nat.lt_succ_self _
theorem below_zero {xs:Array Nat} (hp:xs.toList.Pairwise (· < ·)):SetTable.below xs 0 = 0 :=
 (below_low hp _).uniq ⟨Nat.zero_le _,fun o9 o9 h=>absurd h (Nat.not_lt_zero _),fun o9 o9 o9 o9=>Nat.zero_le _⟩
theorem pw_insert {l:List Nat} {j p:Nat} (hp:l.Pairwise (· < ·)) (h:Low l j p) (hn:l[p]?≠some j):(l.take p ++ j :: l.drop p).Pairwise (· < ·):=by
 have e:l.take p ++ l.drop p = l:=List.take_append_drop p l
 have hp':=hp
 rw [← e,List.pairwise_append] at hp'
 obtain ⟨h1,h2,h3⟩:=hp'
 have h4:∀ x∈l.take p,x < j:=fun x hx=>by
  obtain ⟨i,hi⟩:=List.mem_iff_getElem?.mp hx
  rw [List.getElem?_take] at hi
  by_cases hip:i < p
  ·rw [if_pos hip] at hi; exact h.lo i x hip hi
  ·rw [if_neg hip] at hi; exact dNS hi
 have h5:∀ y∈l.drop p,j < y:=fun y hy=>by
  obtain ⟨i,hi⟩:=List.mem_iff_getElem?.mp hy
  rw [List.getElem?_drop] at hi
  refine Nat.lt_of_le_of_ne (h.hi _ y (Nat.le_add_right ..) hi) fun q=>?_
  subst q
  cases i with
  | zero=>exact hn hi
  | succ i =>
   have hl:=(List.getElem?_eq_some_iff.mp hi).1
   have hx:l[p]? = some l[p]:=List.getElem?_eq_getElem (by grows_one)
   exact absurd (pw_get hp (by grows_one) hx hi) (Nat.not_lt.mpr (h.hi p _ (Nat.le_refl _) hx))
 rw [List.pairwise_append]
 refine ⟨h1,List.pairwise_cons.mpr ⟨h5,h2⟩,fun a ha b hb=>?_⟩
 rcases List.mem_cons.mp hb with rfl | hb
 ·exact h4 a ha
 ·exact h3 a ha b hb
theorem has_none {t:SetTable} (hd:t.dummies = #[]) (j:Nat):SetTable.has t.dummies j = false:=by rw [hd]; unfold SetTable.has; simp
theorem slot_empty {t:SetTable} {j:Nat} (h:t.slot j = .empty):t.place[SetTable.below t.place j]?≠some j:=by
 intro e
 unfold SetTable.slot at h
 dsimp only at h
 rw [if_pos (by rw [e]; exact beq_self_eq_true _)] at h
 exact nomatch h
theorem slot_dummy {t:SetTable} (hd:t.dummies = #[]) {j:Nat} (h:t.slot j = .dummy):False:=by
 unfold SetTable.slot at h
 dsimp only at h
 rw [has_none hd] at h
 by_cases q:(t.place[SetTable.below t.place j]? == some j) = true
 ·rw [if_pos q] at h; exact nomatch h
 ·rw [if_neg q,if_neg Bool.false_ne_true] at h; exact nomatch h
theorem advance_dummy {t:SetTable} {p:SetTable.Probe}:(t.advance p).dummy = p.dummy:=by unfold SetTable.advance; split <;> rfl
theorem probe_go {t:SetTable} {f:Nat→Int} {h:Int} (hd:t.dummies = #[]):∀ (fuel:Nat) (p:SetTable.Probe) (j:Nat) (d:Option Nat),p.dummy = none→SetTable.probe.go t f h fuel p = some (.empty j d)→d = none∧t.place[SetTable.below t.place j]?≠some j:=by
 intro fuel
 induction fuel with
 | zero=>intro p j d o9 e; exact dNS e
 | succ fuel ih =>
  intro p j d hp e
  replace e:(match t.slot p.j with
   | .empty=>some (SetTable.Met.empty p.j p.dummy)
   | .dummy=>SetTable.probe.go t f h fuel (t.advance { p with dummy:=some p.j })
   | .live i=>if f i == h then some (.candidate p.j i (t.advance p)) else SetTable.probe.go t f h fuel (t.advance p)) = some (.empty j d):=e
  cases hs:t.slot p.j with
  | empty =>
   rw [hs] at e
   obtain ⟨e1,e2⟩:=SetTable.Met.empty.inj (Option.some.inj e)
   exact ⟨e2 ▸ hp,e1 ▸ slot_empty hs⟩
  | dummy=>exact (slot_dummy hd hs).elim
  | live i =>
   rw [hs] at e
   by_cases q:(f i == h) = true
   ·replace e:=(if_pos q).symm.trans e; exact nomatch e
   ·replace e:=(if_neg q).symm.trans e; exact ih _ _ _ (advance_dummy.trans hp) e
theorem range_pw (n:Nat):(List.range n).Pairwise (· < ·):=List.pairwise_lt_range
theorem standIn_ok {b:Bool} {t:SetTable} (h:TOk b t) (n:Nat):TOk b (t.standIn n):=⟨by show (Array.range n).toList.Pairwise _; rw [Array.toList_range]; exact range_pw n,rfl,h.led⟩
theorem free_slot {t:SetTable} (hd:t.dummies = #[]) {h:Int} {r:Nat×Bool} (e:t.freeSlot h = some r):t.place[SetTable.below t.place r.1]?≠some r.1:=by
 unfold SetTable.freeSlot at e
 cases q:t.probe (fun o9=>h + 1) h (t.probeStart h) with
 | none=>rw [q] at e; exact dNS e
 | some m =>
  rw [q] at e
  cases m with
  | empty j d =>
   obtain ⟨e1,e2⟩:=probe_go hd _ _ _ _ rfl q
   subst e1
   exact Option.some.inj e ▸ e2
  | _=>exact dNS e
theorem layNew_ok {b:Bool} {t:SetTable} (h:TOk b t) (es:Array (Int×Value)) (k:Int) (x:Value):TOk b (layNew t es k x).2.1:=by
 unfold layNew
 cases hf:t.freeSlot k with
 | none=>exact standIn_ok h _
 | some r =>
  have h1:TOk b (t.put r.1).1:=by
   refine ⟨?_,?_,h.led⟩
   ·show (SetTable.insertAt t.place (SetTable.below t.place r.1) r.1).toList.Pairwise _
    rw [SetTable.toList_insertAt]
    exact pw_insert h.rise (below_low h.rise _) (by rw [Array.getElem?_toList]; exact free_slot h.dum hf)
   ·show (if SetTable.has t.dummies r.1 then _ else t.dummies) = _
    rw [has_none h.dum]; exact h.dum
  show TOk b (SetTable.orStandIn (t.put r.1).1 _)
  unfold SetTable.orStandIn
  split
  ·exact h1
  ·exact standIn_ok h1 _
theorem relayAll_ok {b:Bool} {t:SetTable} (h:TOk b t) (es:Array (Int×Value)) (n:Nat):TOk b (relayAll t es n).2.1:=by
 unfold relayAll
 cases hr:t.relaid (es.map (·.1)) n with
 | none=>exact standIn_ok h _
 | some r =>
  dsimp only
  split
  ·unfold SetTable.relaid SetTable.laid at hr
   simp only [Option.bind_eq_bind,Option.bind_eq_some_iff] at hr
   obtain ⟨owner,_,hr⟩:=hr
   have:=congrArg Prod.fst (Option.some.inj hr)
   show TOk b r.1
   rw [← this]
   refine ⟨?_,rfl,h.led⟩
   show ((List.map _ _).toArray).toList.Pairwise _
   rw [List.toList_toArray,List.map_filterMap,List.pairwise_filterMap]
   refine (range_pw _).imp fun {a c} hac y hy z hz=>?_
   rw [Option.map_map] at hy hz
   obtain ⟨u,_,rfl⟩:=Option.map_eq_some_iff.mp hy
   obtain ⟨v,_,rfl⟩:=Option.map_eq_some_iff.mp hz
   exact hac
  ·exact standIn_ok h _
noncomputable def vint:Value→Int
 | .int n _=>n
 | _=>0
inductive ISet (b:Bool) (o:Obj) (ns:List Int):Prop
 | mk (es:Array (Int×Value)) (ep:Nat) (t:SetTable) (x:o.ExactSet) (d:o.data = .set es ep t) (el:∀ e∈es.toList,∃ n k,e = (hashInt n,.int n k)) (e:es.toList.map (fun e=>vint e.2) = ns) (nd:ns.Nodup) (bd:es.size < scanBound) (f:t.fits es.size = true) (ok:TOk b t)
section
variable {prog:Program} {w:World} {A:Around} {E:Value→Shared→Prop} {s:Shared}
theorem int_elems {l:List (Int×Value)} (h:∀ e∈l,∃ n k,e = (hashInt n,Value.int n k)):ElemsOf (intKind prog w) l:=fun e he=>by
 obtain ⟨n,k,rfl⟩:=h e he
 exact ⟨⟨n,by show (Value.int n k).isInt n = true; simp [Value.isInt],rfl⟩,rfl⟩
theorem iset_put {b:Bool} {r:Addr} {o:Obj} {es:Array (Int×Value)} {ep:Nat} {t:SetTable} {es':Array (Int×Value)} {t':SetTable} {Q:Unit→Shared→Prop} (ho:s.heap.get? r = some o) (hx:o.ExactSet) (hd:o.data = .set es ep t)
  (el:∀ e∈es'.toList,∃ n k,e = (hashInt n,Value.int n k)) (nd:(es'.toList.map fun e=>vint e.2).Nodup) (bd:es'.size < scanBound) (f:t'.fits es'.size = true) (ok:TOk b t')
  (h:∀ h' o',Heap.SameBut r s.heap h'→h'.get? r = some o'→o'.data = .set es' (ep + 1) t'→ISet b o' (es'.toList.map fun e=>vint e.2)→Q () { s with heap:=h' }):wpAny (model prog w) A (storeSet r es' t') Q E s:=by
 refine wpAny_storeSet_of ho hd ?_ (fits_of_scanBound bd)
 obtain ⟨hg,_⟩:=SetOf_store (knd:=intKind prog w) (S':=fun k=>es'.toList.any fun e=>(intKind prog w).is k e.2) ho hx hd (int_elems el) (fun k=>by rw [List.any_eq_true]) bd f
 exact h _ _ (Heap.SameBut.update ..) hg rfl ⟨es',ep + 1,t',hx,rfl,el,rfl,nd,bd,f,ok⟩
theorem iset_add {b:Bool} {r:Addr} {o:Obj} {ns:List Int} {v:Int} {tk:Tok} {Q:Bool→Shared→Prop} (ho:s.heap.get? r = some o) (hS:ISet b o ns) (hroom:ns.length + 1 < scanBound)
  (h:∀ h' o' ns' c,Heap.SameBut r s.heap h'→h'.get? r = some o'→ISet b o' ns'→(∀ x,x∈ns'↔x∈ns∨x = v)→ns'.length≤ns.length + 1→Q c { s with heap:=h',toks:=s.toks + 1 }):wpAny (model prog w) A (setAdd r (.int v tk)) Q E s:=by
 obtain ⟨es,ep,t,hx,hd,el,e,nd,bd,hf,ok⟩:=hS
 have hel:ElemsOf (intKind prog w) es.toList:=int_elems el
 have hlen:ns.length = es.size:=by rw [← e,List.length_map,Array.length_toList]
 unfold setAdd
 refine wpAny_holding (wpAny_bind ((intKind prog w).pyHash (k:=v) (by show (Value.int v tk).isInt v = true; simp [Value.isInt]) ?_))
 unfold setAddHashed setAddHashedIn
 refine wpAny_holding (wpAny_bind (wpAny_setState_of ho hd hf ?_))
 dsimp only
 rw [byScan_of rfl bd hel,if_pos rfl]
 unfold setAddByScan
 refine wpAny_bind (wpAny_bind (wpAny_rule (wpAny_bind (wpAny_setScan_of (knd:=intKind prog w) (k:=v) (by show (Value.int v tk).isInt v = true; simp [Value.isInt]) ho hd hf hel ?_))))
 have hfind:∀ a∈es.toList,(intKind prog w).is v a.2 = decide (vint a.2 = v):=fun a ha=>by
  obtain ⟨n,k,rfl⟩:=el a ha
  show (Value.int n k).isInt v = decide (n = v)
  show (n == v) = decide (n = v)
  by_cases q:n = v <;> simp [q]
 cases hr:es.toList.findIdx? (fun a=>(intKind prog w).is v a.2) with
 | some j =>
  obtain ⟨hj,hpj,_⟩:=List.findIdx?_eq_some_iff_getElem.mp hr
  have hv:v∈ns:=by
   rw [hfind _ (List.getElem_mem hj)] at hpj
   rw [← e,List.mem_map]
   exact ⟨_,List.getElem_mem hj,by simpa using hpj⟩
  exact wpAny_pure (wpAny_pure (h s.heap o ns false (Heap.SameBut.refl ..) ho ⟨es,ep,t,hx,hd,el,e,nd,bd,hf,ok⟩ (fun x=>⟨.inl,fun q=>q.elim id fun q=>q ▸ hv⟩) (Nat.le_succ _)))
 | none =>
  have hv:v∉ns:=fun hv=>by
   rw [← e,List.mem_map] at hv
   obtain ⟨a,ha,hav⟩:=hv
   have:=List.findIdx?_eq_none_iff.mp hr a ha
   rw [hfind a ha] at this
   simp [hav] at this
  have hperm:=layNew_perm t es ((intKind prog w).hash v) (.int v tk)
  have hfits:=layNew_fits t es ((intKind prog w).hash v) (.int v tk)
  have hok:=layNew_ok ok es ((intKind prog w).hash v) (.int v tk)
  dsimp only
  generalize layNew t es ((intKind prog w).hash v) (.int v tk) = L at hperm hfits hok ⊢
  obtain ⟨es1,t1,wasDummy,gave⟩:=L
  rw [Array.toList_push] at hperm
  dsimp only at hperm hfits hok ⊢
  have grow:∀ es2:Array (Int×Value),es2.toList.Perm (es.toList ++ [((intKind prog w).hash v,.int v tk)])→(∀ a∈es2.toList,∃ n k,a = (hashInt n,Value.int n k))∧(es2.toList.map fun a=>vint a.2).Nodup∧es2.size < scanBound ∧
    (∀ x,x∈(es2.toList.map fun a=>vint a.2)↔x∈ns∨x = v)∧(es2.toList.map fun a=>vint a.2).length≤ns.length + 1:=fun es2 p=>by
   have pm:(es2.toList.map fun a=>vint a.2).Perm (ns ++ [v]):=by
    have:=p.map fun a:Int×Value=>vint a.2
    rw [List.map_append,e] at this; exact this
   have hl:es2.size = ns.length + 1:=by
    have:=p.length_eq
    rw [List.length_append,Array.length_toList,Array.length_toList] at this
    rw [this,hlen]; rfl
   refine ⟨fun a ha=>?_,pm.nodup_iff.mpr (List.nodup_append.mpr ⟨nd,by simp,fun a ha c hc q=>hv (by rw [List.mem_singleton] at hc; rw [← hc,← q]; exact ha)⟩),by rw [hl]; exact hroom,fun x=>by rw [pm.mem_iff,List.mem_append,List.mem_singleton],by rw [List.length_map,Array.length_toList,hl]; exact Nat.le_refl _⟩
   rcases List.mem_append.mp (p.mem_iff.mp ha) with ha | ha
   ·exact el a ha
   ·rw [List.mem_singleton] at ha; exact ⟨v,tk,ha⟩
  have gw:∀ (c:Bool) {s₁:Shared} {Q':Unit→Shared→Prop},Q' () s₁→wpAny (model prog w) A (match c with | true=>rule "set.scan.the-table-gave-way" | false=>pure ()) Q' E s₁ :=
   fun c s₁ Q' hq=>by cases c <;> first | exact wpAny_pure hq | exact wpAny_rule hq
  refine wpAny_bind (gw _ ?_)
  have hby:hashByValue 8 (.int v tk) = pure true:=rfl
  rw [hby,ite_self]
  refine wpAny_bind (wpAny_pure ?_)
  simp only [if_true]
  obtain ⟨a1,a2,a3,a4,a5⟩:=grow es1 hperm
  refine wpAny_bind (iset_put ho hx hd a1 a2 a3 hfits hok fun h1 o1 q1 q2 q3 q4=>?_)
  have q2':=q2
  by_cases hc:(!wasDummy && t1.tooFull) = true
  ·rw [if_pos hc]
   have rp:=relayAll_perm t1 es1 (SetTable.grown es1.size)
   have rf:=relayAll_fits t1 es1 (SetTable.grown es1.size)
   have ro:=relayAll_ok hok es1 (SetTable.grown es1.size)
   generalize relayAll t1 es1 (SetTable.grown es1.size) = L at rp rf ro ⊢
   obtain ⟨es2,t2,gave2⟩:=L
   dsimp only at rp rf ro ⊢
   obtain ⟨c1,c2,c3,c4,c5⟩:=grow es2 (rp.trans hperm)
   obtain ⟨_,_,_,q5,_⟩:=q4
   refine wpAny_bind (gw _ (wpAny_bind (iset_put (s:={ s with heap:=h1,toks:=s.toks + 1 }) q2 q5 q3 c1 c2 c3 rf ro fun h2 o2 p1 p2 o9 p4=>wpAny_pure (wpAny_pure ?_))))
   exact h h2 o2 _ true (q1.trans p1) p2 p4 c4 c5
  ·rw [if_neg hc]
   exact wpAny_pure (wpAny_pure (h h1 o1 _ true q1 q2 q4 a4 a5))
end
theorem IntsAre.at {vs:List Value} {ns:List Int} (h:IntsAre vs ns):∀ {i:Nat} {v:Value},vs[i]? = some v→∃ n t,ns[i]? = some n∧v = .int n t:=by
 induction h with
 | nil=>intro i v e; simp at e
 | cons n t _ ih =>
  intro i v e
  cases i with
  | zero=>exact ⟨n,t,rfl,(Option.some.inj e).symm⟩
  | succ i=>exact ih e
section
variable {prog:Program} {w:World} {A:Around} {E:Value→Shared→Prop} {s:Shared}
theorem iset_loop {R:Result→Shared→Prop} {b:Bool} {I l r:Addr} {items:Array Value} {vs:List Int} (W:Walks prog w A.in1 I [I,l] [I] items.size (fun i v=>items[i]? = some v) (fun i h=>h.IsListIter I l i∧h.IsList l items)) (hr:r≠I∧r≠l) (hi:IntsAre items.toList vs) (hsz:vs.length + 1 < scanBound) :
  ∀ (k i:Nat) (s:Shared) (o:Obj) (ns:List Int),items.size - i = k→i≤items.size→s.heap.IsListIter I l i∧s.heap.IsList l items→s.heap.get? r = some o→ISet b o ns→ns.length≤i→(∀ x,x∈ns↔x∈vs.take i) →
   (∀ h' tk o' ns',(∀ a ob,a≠r→a≠I→s.heap.get? a = some ob→h'.get? a = some ob)→h'.get? r = some o'→ISet b o' ns'→(∀ x,x∈ns'↔x∈vs)→R (.ok (.ret .none)) { s with heap:=h',toks:=tk }) →
   codeAny (model prog w) A (.builtin "set.update.loop" ⟨[.ref r,.ref I],[]⟩) R s:=by
 have hlen:vs.length = items.size:=by
  have:∀ {l:List Value} {ns:List Int},IntsAre l ns→ns.length = l.length:=fun h=>by induction h <;> simp_all
  rw [this hi,Array.length_toList]
 intro k
 induction k with
 | zero =>
  intro i s o ns hk hle st ho hS hl hm hR
  obtain rfl:i = items.size:=Nat.le_antisymm hle (Nat.le_of_sub_eq_zero hk)
  refine codeAny_builtin F.entry_set_update_loop ?_
  rw [Around.under_plainId F.plain_set_update_loop _]
  show wpAny _ A.in1 (pyNext (.ref I) >>= _) _ _ s
  refine wpAny_bind (W.done s _ _ st fun h' tk hk'=>wpAny_pure (hR h' tk o ns (fun a ob o9 h2 e=>hk' a ob (by simpa using h2) e) (hk' r o (by simpa using hr.1) ho) hS (by rw [← hlen,List.take_length] at hm; exact hm)))
 | succ k ih =>
  intro i s o ns hk hle st ho hS hl hm hR
  refine codeAny_builtin F.entry_set_update_loop ?_
  rw [Around.under_plainId F.plain_set_update_loop _]
  show wpAny _ A.in1 (pyNext (.ref I) >>= _) _ _ s
  refine wpAny_bind (W.item i s _ _ (Nat.lt_of_sub_eq_succ hk) st fun v h' tk hv st' hk'=>?_)
  obtain ⟨n,t,e1,rfl⟩:=IntsAre.at hi (by rw [Array.getElem?_toList]; exact hv)
  refine wpAny_bind (wpAny_holding (iset_add (s:={ s with heap:=h',toks:=tk }) (hk' r o (by simpa using hr.1) ho) hS (by dict_keeps) fun h2 o2 ns2 c q1 q2 q3 q4 q5=>wpAny_pure ⟨plainId_quiet F.plain_set_update_loop _,?_⟩))
  have keep:∀ a ob,a≠r→h'.get? a = some ob→h2.get? a = some ob:=fun a ob ha e=>by rw [q1.2 a ha]; exact e
  refine ih (i + 1) _ o2 ns2 (congrArg Nat.pred hk) (Nat.lt_of_sub_eq_succ hk) (W.frame _ h' _ st' fun a ha ob e=>keep a ob (fun z=>by subst z; rcases List.mem_cons.mp ha with z | z; exact hr.1 z; exact hr.2 (List.mem_singleton.mp z)) e) q2 q3 (by dict_keeps) (fun x=>?_) fun h3 tk3 o3 ns3 p1 p2 p3 p4=>?_
  ·rw [q4,hm,List.take_add_one,e1,List.mem_append]; simp
  ·exact hR h3 tk3 o3 ns3 (fun a ob h1 h2 e=>p1 a ob h1 h2 (keep a ob h1 (hk' a ob (by simpa using h2) e))) p2 p3 p4
abbrev ledOf (w:World):Bool:=!w.params.followText "set-order"
abbrev newSetO (b:Bool):Obj:={ cls:=.type "set",dict:=none,data:=.set #[] 0 (.fresh 0 0 b) }
theorem newSet_is (b:Bool):ISet b (newSetO b) []:=⟨#[],0,_,⟨rfl,rfl,rfl⟩,rfl,fun e he=>by simp at he,rfl,.nil,by decide,rfl,⟨.nil,rfl,rfl⟩⟩
theorem set_new_led {a:Value} {Q:Value→Shared→Prop} (h:Q (.ref s.heap.objs.size) { s with heap:=s.heap.push (newSetO (ledOf w)) }) :
  codeAny (model prog w) A (.call (.builtin "set.__new__") ⟨[.type "set",a],[]⟩) (wants Q E) s:=by
 refine codeAny_of_tree ?_
 show wpAny _ A.in1 (do checkBuiltinCall "set.__new__" ⟨[.type "set",a],[]⟩; again (.builtin "set.__new__" ⟨[.type "set",a],[]⟩)) _ _ s
 refine wpAny_bind (wpAny_of_eq (F.newCall_set_1 a) (wpAny_pure ⟨plainId_quiet F.plain_set_new _,codeAny_builtin F.entry_set_new ?_⟩))
 rw [Around.under_plainId F.plain_set_new _]
 unfold Builtin.«set.__new__» Builtin.Frozenset.newClass
 have hsub:=sub_set_self
 obtain ⟨hp,g,d,tk,os⟩:=s
 dsimp only
 wp_walk
 refine wpAny_askSetting (wpAny_pure ?_)
 dsimp only
 unfold newObj
 exact wpAny_bind (wpAny_alloc (wpAny_pure (wpAny_pure h)))
set_option maxHeartbeats 3200000 in
theorem call_set_gen {l:Addr} {items:Array Value} {Q:Value→Shared→Prop} {P:Heap→Addr→Prop} (hh:A.handled = none) (hl:s.heap.IsList l items)
  (loop:∀ {A':Around} {R:Result→Shared→Prop} {I r:Addr} {s₁:Shared},Walks prog w A'.in1 I [I,l] [I] items.size (fun i v=>items[i]? = some v) (fun i h=>h.IsListIter I l i∧h.IsList l items)→r≠I∧r≠l→s₁.heap.IsListIter I l 0∧s₁.heap.IsList l items→s₁.heap.get? r = some (newSetO (ledOf w)) →
   (∀ h' tk,(∀ a ob,a≠r→a≠I→s₁.heap.get? a = some ob→h'.get? a = some ob)→P h' r→R (.ok (.ret .none)) { s₁ with heap:=h',toks:=tk })→codeAny (model prog w) A' (.builtin "set.update.loop" ⟨[.ref r,.ref I],[]⟩) R s₁)
  (h:∀ h' tk,(∀ a ob,s.heap.get? a = some ob→h'.get? a = some ob)→P h' s.heap.objs.size→Q (.ref s.heap.objs.size) { s with heap:=h',toks:=tk }) :
  wpAny (model prog w) A (call (.type "set") [.ref l]) Q E s:=by
 obtain ⟨c,tl,hmro⟩:=F.called_set.mro
 have hmade:=F.called_set.made
 have hsub:=F.called_set.sub
 refine wpAny_call (codeAny_of_tree ?_)
 show wpAny _ _ (callAny (.type "set") _) _ _ _
 refine wpAny_pure ⟨Code.quiet_builtin _ (by decide +kernel),codeAny_builtin F.entry_type_call ?_⟩
 rw [Around.under_plain (weight_type_call_type "set" [.ref l] []) rfl]
 have h1:=F.called_set.notType
 have h2:=F.called_set.canCreate
 have hct:=F.typeCall_set_1 (.ref l)
 repeat (any_goals (first | assumption | wp_step))
 refine codeAny_mono (set_new_led (E:=E) (Q:=fun obj s₁=>obj = .ref s.heap.objs.size∧s₁ = { s with heap:=s.heap.push (newSetO (ledOf w)) }) ⟨rfl,rfl⟩) fun r s₁ hr=>?_
 cases r with
 | error e=>exact hr
 | ok fl =>
  cases fl with
  | ret obj =>
   obtain ⟨rfl,rfl⟩:=hr
   have hS:(s.heap.push (newSetO (ledOf w))).get? s.heap.objs.size = some (newSetO (ledOf w)):=Heap.get?_push_size _ rfl
   have hT:Shared.TypeIs { s with heap:=s.heap.push (newSetO (ledOf w)) } (.ref s.heap.objs.size) "set":=⟨_,hS,rfl⟩
   have hli:=F.called_set.init.lookup
   have hbi:=F.called_set.init.bind (.ref s.heap.objs.size)
   repeat (any_goals (first | assumption | wp_step))
   refine codeAny_mono (codeAny_call_builtin (R:=wants (fun r s₂=>r = .none∧Q (.ref s.heap.objs.size) s₂) E) F.called_set.init.plain F.entry_set_init (check_set_init_1 hT ?_)) fun r₂ s₂ hr₂=>?_
   ·have hl1:(s.heap.push (newSetO (ledOf w))).IsList l items:=hl.push _
    obtain ⟨ol,hol,hcl,nl,hdl⟩:=id hl1
    obtain ⟨ocls,odict,odata,oslots⟩:=ol
    dsimp only at hcl hdl
    subst hcl hdl
    have hsls:=F.sub_list_set
    have hslf:=F.sub_list_frozenset
    have hne:(Value.type "list" == Value.type "dict") = false:=by decide
    unfold Builtin.«set.__init__» noKeywords Builtin.Frozenset.updateFrom
    generalize hPI:pyIter = PI
    wp_walk
    subst hPI
    refine wpAny_pyIter_list hl1 (wpAny_bind (wpAny_runValue ?_))
    have hlS:l < s.heap.objs.size:=by obtain ⟨_,h0,_⟩:=hl; exact Heap.lt_size h0
    have hsize:(s.heap.push (newSetO (ledOf w))).objs.size = s.heap.objs.size + 1:=Heap.size_push ..
    have hneI:l≠(s.heap.push (newSetO (ledOf w))).objs.size:=by rw [hsize]; exact Nat.ne_of_lt (Nat.lt_succ_of_lt hlS)
    refine loop (Walks.list (by first | exact hh | simp [hh]) _ l hneI items) ⟨by rw [hsize]; exact Nat.ne_of_lt (Nat.lt_succ_self _),Nat.ne_of_gt hlS⟩ ⟨⟨_,Heap.get?_push_size _ rfl,rfl,rfl⟩,hl1.push _⟩ (Heap.get?_push_of_some _ hS) fun h' tk k1 k2=>?_
    refine wpAny_pure ?_
    show wpAny _ _ (ret Value.none) _ _ _
    exact wpAny_pure ⟨rfl,h h' tk (fun a ob e=>k1 a ob (Nat.ne_of_lt (Heap.lt_size e)) (by rw [hsize]; exact Nat.ne_of_lt (Nat.lt_succ_of_lt (Heap.lt_size e))) (Heap.get?_push_of_some _ (Heap.get?_push_of_some _ e))) k2⟩
   ·cases r₂ with
    | error e=>exact hr₂
    | ok fl₂ =>
     cases fl₂ with
     | ret r =>
      obtain ⟨rfl,hq⟩:=hr₂
      repeat (any_goals (first | assumption | wp_step))
     | _=>exact hr₂.elim
  | _=>exact hr.elim
theorem call_set_ints {l:Addr} {items:Array Value} {vs:List Int} {Q:Value→Shared→Prop} (hh:A.handled = none) (hl:s.heap.IsList l items) (hi:IntsAre items.toList vs) (hsz:vs.length + 1 < scanBound)
  (h:∀ h' tk o' ns',(∀ a ob,s.heap.get? a = some ob→h'.get? a = some ob)→h'.get? s.heap.objs.size = some o'→ISet (ledOf w) o' ns'→(∀ x,x∈ns'↔x∈vs)→Q (.ref s.heap.objs.size) { s with heap:=h',toks:=tk }) :
  wpAny (model prog w) A (call (.type "set") [.ref l]) Q E s :=
 call_set_gen (P:=fun h r=>∃ o' ns',h.get? r = some o'∧ISet (ledOf w) o' ns'∧∀ x,x∈ns'↔x∈vs) hh hl (fun W hr st ho hR=>iset_loop W hr hi hsz items.size 0 _ _ [] rfl (Nat.zero_le _) st ho (newSet_is _) (Nat.le_refl _) (fun x=>by simp) fun h' tk o' ns' k1 k2 k3 k4=>hR h' tk k1 ⟨o',ns',k2,k3,k4⟩)
  fun h' tk k p=>by obtain ⟨o',ns',a,b,c⟩:=p; exact h h' tk o' ns' k a b c
end
theorem slot_sit_next:PySem.Slot "set_iterator" "__next__" "set_iterator.__next__" :=
 .of (owner:="set_iterator") (n:="__next__") (by rw [typeLookup_type,builtinLookup_eq_fast]; kernel_rfl) (by decide +kernel) (by decide +kernel) (by decide +kernel)
  (by first | exact .inl (by decide +kernel) | exact .inr (by decide +kernel)) (by rw [isSubtype_type]; kernel_rfl)
theorem entry_sit_next:entryFor table "set_iterator.__next__" = some Builtin.«set_iterator.__next__»:=entryFor_of_tree (by kernel_rfl)
theorem owner_sit:Manifest.owners.lookup (String.ofList ['r','o','t','a','r','e','t','i','_','t','e','s'].reverse) = some Manifest.sig_set_iterator:=by kernel_rfl
theorem args_sit_next (a:Value):argsOk "set_iterator.__next__" ⟨[a],[]⟩:=by
 unfold argsOk; rw [signature?_of (id:="set_iterator.__next__") (n:=['_','_','t','x','e','n','_','_']) (o:=['r','o','t','a','r','e','t','i','_','t','e','s']) (by kernel_rfl) owner_sit]; kernel_rfl
theorem entry_set_iter:entryFor table "set.__iter__" = some Builtin.«frozenset.__iter__» :=
 entryFor_alias (id':="frozenset.__iter__") (by kernel_rfl) rfl (by decide +kernel) (by kernel_rfl)
theorem slot_sit_iter:PySem.Slot "set_iterator" "__iter__" "set_iterator.__iter__" :=
 .of (owner:="set_iterator") (n:="__iter__") (by rw [typeLookup_type,builtinLookup_eq_fast]; kernel_rfl) (by decide +kernel) (by decide +kernel) (by decide +kernel)
  (by first | exact .inl (by decide +kernel) | exact .inr (by decide +kernel)) (by rw [isSubtype_type]; kernel_rfl)
theorem entry_sit_iter:entryFor table "set_iterator.__iter__" = some Builtin.«dict_keyiterator.__iter__» :=
 entryFor_alias (id':="dict_keyiterator.__iter__") (by kernel_rfl) rfl (by decide +kernel) (by kernel_rfl)
theorem args_sit_iter (a:Value):argsOk "set_iterator.__iter__" ⟨[a],[]⟩:=by
 unfold argsOk; rw [signature?_of (id:="set_iterator.__iter__") (n:=['_','_','r','e','t','i','_','_']) (o:=['r','o','t','a','r','e','t','i','_','t','e','s']) (by kernel_rfl) owner_sit]; kernel_rfl
theorem perm_at {α:Type} {l:List α} {i:Nat} (h:i < l.length):(l[i] :: l.eraseIdx i).Perm l:=by
 rw [List.eraseIdx_eq_take_drop_succ]
 refine List.perm_middle.symm.trans (List.Perm.of_eq ?_)
 rw [List.getElem_cons_drop,List.take_append_drop]
theorem wpAny_choose {M:Model} {A:Around} {E:Value→Shared→Prop} {s:Shared} {src:Source} {n:Nat} {Q:Nat→Shared→Prop} (hn:n≠0) (h:∀ i dr,i < n→Q i { s with drawn:=dr }):wpAny M A (choose src n) Q E s :=
 fun o9 o9 o9=>⟨hn,h _ _ (Nat.mod_lt _ (Nat.pos_of_ne_zero hn))⟩
theorem draw_order {M:Model} {A:Around} {E:Value→Shared→Prop} {α:Type}:∀ (n:Nat) (xs:List α) (s:Shared) (Q:List α→Shared→Prop),xs.length = n→(∀ ys dr,ys.Perm xs→Q ys { s with drawn:=dr })→wpAny M A (drawOrder n xs) Q E s:=by
 intro n
 induction n with
 | zero =>
  intro xs s Q hn h
  obtain rfl:=List.length_eq_zero_iff.mp hn
  exact wpAny_pure (h [] s.drawn (List.Perm.refl _))
 | succ n ih =>
  intro xs s Q hn h
  cases xs with
  | nil=>exact nomatch hn
  | cons x xs =>
   show wpAny _ _ (choose .order (x :: xs).length >>= fun i=>match (x :: xs)[i]? with
    | some y=>drawOrder n ((x :: xs).eraseIdx i) >>= fun r=>pure (y :: r)
    | none=>unsupported "internal:drawOrder") _ _ _
   refine wpAny_bind (wpAny_choose (by simp) fun i dr hi=>?_)
   rw [List.getElem?_eq_getElem hi]
   refine wpAny_bind (ih _ _ _ (by rw [List.length_eraseIdx,if_pos hi]; dict_keeps) fun ys dr' p=>wpAny_pure ?_)
   exact h _ dr' ((p.cons _).trans (perm_at hi))
theorem pick_go {α:Type} (next:Nat→Nat):∀ (fuel k:Nat) (left:List α) (out:Array α),left.length = fuel→(pickOrder.go next fuel k left out).toList.Perm (out.toList ++ left):=by
 intro fuel
 induction fuel with
 | zero =>
  intro k left out h
  obtain rfl:=List.length_eq_zero_iff.mp h
  show out.toList.Perm (out.toList ++ [])
  rw [List.append_nil]
 | succ fuel ih =>
  intro k left out h
  have hi:next k % left.length < left.length:=Nat.mod_lt _ (by dict_keeps)
  show (match left[next k % left.length]? with
   | some x=>pickOrder.go next fuel (k + 1) (left.eraseIdx (next k % left.length)) (out.push x)
   | none=>out).toList.Perm _
  rw [List.getElem?_eq_getElem hi]
  refine (ih _ _ _ (by rw [List.length_eraseIdx,if_pos hi]; dict_keeps)).trans ?_
  rw [Array.toList_push,List.append_assoc]
  exact List.Perm.append_left _ (perm_at hi)
abbrev sitO (first:Value) (i:Nat) (r:Addr) (n ep:Nat):Obj:={ cls:=.type "set_iterator",data:=.fields #[first,.int i 0,.ref r,.int n 0,.int ep 0] }
structure SNx (prog:Program) (w:World) (r:Addr) (o:Obj) (l:List Value) (ep:Nat) (Nx:Nat→Nat→Prop):Prop where
 item:∀ (A:Around) (E:Value→Shared→Prop) (s:Shared) (slot i:Nat) (v:Value) (Q:Option (Value×Nat)→Shared→Prop),s.heap.get? r = some o→Nx slot i→l[i]? = some v→(∀ slot',Nx slot' (i + 1)→Q (some (v,slot')) s)→wpAny (model prog w) A (setNext r slot i ep) Q E s
 done:∀ (A:Around) (E:Value→Shared→Prop) (s:Shared) (slot:Nat) (Q:Option (Value×Nat)→Shared→Prop),s.heap.get? r = some o→Nx slot l.length→Q none s→wpAny (model prog w) A (setNext r slot l.length ep) Q E s
section
variable {prog:Program} {w:World} {A:Around} {E:Value→Shared→Prop} {s:Shared} {I r:Addr} {o oI:Obj} {l:List Value} {ep:Nat}
theorem next_sit {Q:Option Value→Shared→Prop} (ho:s.heap.get? I = some oI) (hc:oI.cls = .type "set_iterator")
  (h:wpAny (model prog w) A.in1 (Builtin.«set_iterator.__next__» ⟨[.ref I],[]⟩) (fun fin s'=>∃ v,fin = .done (.ret v)∧Q (some v) s') (fun e s'=>wpAny (model prog w) A (isInstance e (.type "StopIteration")) (fun b s''=>b = true∧Q none s'') E s') s) :
  wpAny (model prog w) A (pyNext (.ref I)) Q E s:=by
 unfold pyNext
 refine wpAny_bind (wpAny_attempt (wpAny_callSpecial?_slot (name:=Str.ofString "__next__") ⟨oI,ho,hc⟩ slot_sit_next (wpAny_call_entry slot_sit_next ⟨oI,ho,hc⟩ entry_sit_next ?_ (args_sit_next _))))
 refine wpAny_mono h (fun fin s' hp=>?_) fun e s' he=>?_
 ·obtain ⟨v,rfl,q⟩:=hp
  exact ⟨v,rfl,wpAny_pure q⟩
 ·refine wpAny_bind (wpAny_mono he (fun b s'' hb=>?_) fun o9 o9 x=>x)
  obtain ⟨rfl,q⟩:=hb
  exact wpAny_pure q
theorem raise_stop {α:Type} {P:α→Shared→Prop} {Q:Option Value→Shared→Prop} (hh:A.handled = none) (h:∀ h',(∀ a ob,s.heap.get? a = some ob→h'.get? a = some ob)→Q none { s with heap:=h' }) :
  wpAny (model prog w) A.in1 (do raiseNew (← newExc (.type "StopIteration") []):Sem α) P (fun e s'=>wpAny (model prog w) A (isInstance e (.type "StopIteration")) (fun b s''=>b = true∧Q none s'') E s') s:=by
 refine wpAny_bind ?_
 simp only [newExc,newTuple]
 refine wpAny_bind (wpAny_newObj_type ?_ (by size_fits))
 refine wpAny_bind (m:=firstArgMember _ _) (wpAny_of_eq (a:=Value.none) (by first | rfl | (simp only [firstArgMember]; rfl)) ?_)
 refine wpAny_newObj_type ?_ (by size_fits)
 unfold raiseNew
 refine wpAny_bind (wpAny_handled ?_)
 rw [show A.in1.handled = none from hh]
 refine wpAny_bind (wpAny_pure (wpAny_throw ?_))
 refine wpAny_isInstance (T:="StopIteration") (b:=true) ⟨_,Heap.get?_push_size _ rfl,rfl⟩ isSubtype_stop ?_
 exact ⟨rfl,h _ fun a ob e=>Heap.get?_push_of_some _ (Heap.get?_push_of_some _ e)⟩
theorem sit_set (first:Value) (i:Nat) (k:Nat) (x:Value) (n ep:Nat) {h:Heap} (ho:h.get? I = some (sitO first i r n ep)):(h.update I (Obj.mapFields (·.setIfInBounds k x))).get? I = some { sitO first i r n ep with data:=.fields (#[first,.int i 0,.ref r,.int n 0,.int ep 0].setIfInBounds k x) }:=by
 have:=Heap.get?_update_self (Obj.mapFields (·.setIfInBounds k x)) ho rfl
 exact this
theorem upd_keep {h:Heap} {f:Obj→Obj} {a:Addr} {ob:Obj} (ha:a∉[I]) (e:h.get? a = some ob):(h.update I f).get? a = some ob :=
 (Heap.get?_update_other _ _ (fun q=>ha (by simp [q]))).trans e
theorem iter_sit {Q:Value→Shared→Prop} {E:Value→Shared→Prop} {s:Shared} (ho:s.heap.get? I = some oI) (hc:oI.cls = .type "set_iterator") (h:Q (.ref I) s):wpAny (model prog w) A (pyIter (.ref I)) Q E s:=by
 refine wpAny_pyIter_slot ⟨oI,ho,hc⟩ slot_sit_iter (wpAny_call_entry slot_sit_iter ⟨oI,ho,hc⟩ entry_sit_iter ?_ (args_sit_iter _))
 exact wpAny_pure ⟨_,rfl,_,_,⟨oI,ho,hc⟩,slot_sit_next.lookup,h⟩
theorem walk_tab {b:Bool} {ns:List Int} {Nx:Nat→Nat→Prop} (hS:ISet b o ns) (hl:l.length = ns.length) (hI:r≠I) (hh:A.handled = none) (N:SNx prog w r o l ep Nx) :
  Walks prog w A I [I,r] [I] l.length (fun i v=>l[i]? = some v) (fun i h=>(∃ slot,Nx slot i∧h.get? I = some (sitO (.int (slot:Nat) 0) i r l.length ep))∧h.get? r = some o) where
 sub:=fun b hb=>by simp at hb; simp [hb]
 frame:=fun i h h' st hk=>by
  obtain ⟨⟨slot,h1,h2⟩,h3⟩:=st
  exact ⟨⟨slot,h1,hk I (by simp) _ h2⟩,hk r (by simp) _ h3⟩
 item:=fun i s Q E hi st hQ=>by
  obtain ⟨⟨slot,h1,h2⟩,h3⟩:=st
  obtain ⟨es,ep',t,x,d,el,e,nd,bd,f,ok⟩:=hS
  refine next_sit h2 rfl ?_
  unfold Builtin.«set_iterator.__next__»
  refine wpAny_bind (wpAny_pure ?_)
  refine wpAny_bind (wpAny_fieldsOf h2 rfl ?_)
  refine wpAny_bind (wpAny_setEntries_of h3 d f ?_)
  have hsz:es.size = l.length:=by rw [hl,← e,List.length_map,Array.length_toList]
  rw [hsz,if_neg (by simp)]
  show wpAny _ _ (setNext r ((slot:Nat):Int).toNat ((i:Nat):Int).toNat ((ep:Nat):Int).toNat >>= _) _ _ _
  rw [Int.toNat_natCast,Int.toNat_natCast,Int.toNat_natCast]
  refine wpAny_bind (N.item _ _ s slot i l[i] _ h3 h1 (List.getElem?_eq_getElem hi) fun slot' h4=>?_)
  refine wpAny_bind (wpAny_setField h2 rfl (by simp) ?_)
  have g1:=sit_set (.int (slot:Nat) 0) i 0 (rawInt slot') l.length ep h2
  refine wpAny_bind (wpAny_setField g1 rfl (by simp) ?_)
  have g2:=Heap.get?_update_self (Obj.mapFields (·.setIfInBounds 1 (rawInt (((i:Nat):Int) + 1)))) g1 rfl
  exact wpAny_pure ⟨l[i],rfl,hQ _ _ _ (List.getElem?_eq_getElem hi) ⟨⟨slot',h4,g2⟩,upd_keep (by simpa using hI) (upd_keep (by simpa using hI) h3)⟩ fun a ob ha e=>upd_keep ha (upd_keep ha e)⟩
 done:=fun s Q E st hQ=>by
  obtain ⟨⟨slot,h1,h2⟩,h3⟩:=st
  obtain ⟨es,ep',t,x,d,el,e,nd,bd,f,ok⟩:=hS
  refine next_sit h2 rfl ?_
  unfold Builtin.«set_iterator.__next__»
  refine wpAny_bind (wpAny_pure ?_)
  refine wpAny_bind (wpAny_fieldsOf h2 rfl ?_)
  refine wpAny_bind (wpAny_setEntries_of h3 d f ?_)
  have hsz:es.size = l.length:=by rw [hl,← e,List.length_map,Array.length_toList]
  rw [hsz,if_neg (by simp)]
  show wpAny _ _ (setNext r ((slot:Nat):Int).toNat ((l.length:Nat):Int).toNat ((ep:Nat):Int).toNat >>= _) _ _ _
  rw [Int.toNat_natCast,Int.toNat_natCast,Int.toNat_natCast]
  refine wpAny_bind (N.done _ _ s slot _ h3 h1 ?_)
  refine wpAny_bind (wpAny_setField h2 rfl (by simp) ?_)
  exact raise_stop hh fun h' hk=>hQ h' s.toks fun a ob ha e=>hk a ob (upd_keep ha e)
 self:=fun i s Q E st hQ=>by
  obtain ⟨⟨slot,h1,h2⟩,h3⟩:=st
  exact iter_sit h2 rfl hQ
end
section
variable {prog:Program} {w:World} {A:Around} {E:Value→Shared→Prop} {s:Shared} {I r:Addr} {o oI:Obj} {es:Array (Int×Value)} {ep:Nat} {t:SetTable}
theorem setsByText_is {Q:Bool→Shared→Prop} (h:Q (w.params.followText "set-order") s):wpAny (model prog w) A setsByText Q E s:=by
 unfold setsByText
 exact wpAny_bind (wpAny_askSetting (wpAny_pure h))
theorem nx_text (hb:w.params.followText "set-order" = true) (d:o.data = .set es ep t) (f:t.fits es.size = true) :
  SNx prog w r o ((pickOrder (w.params.setOrder r ep) es).toList.map (·.2)) ep (fun slot o9=>slot = 0):=by
 have get:∀ (A:Around) (E:Value→Shared→Prop) (s:Shared) (slot i:Nat) (Q:Option (Value×Nat)→Shared→Prop),s.heap.get? r = some o →
   Q ((pickOrder (w.params.setOrder r ep) es)[i]?.map fun e=>(e.2,slot)) s→wpAny (model prog w) A (setNext r slot i ep) Q E s:=fun A E s slot i Q ho h=>by
  unfold setNext
  refine wpAny_bind (wpAny_setState_of ho d f ?_)
  refine wpAny_bind (setsByText_is ?_)
  rw [hb,if_pos rfl]
  rw [if_neg (by simp)]
  refine wpAny_bind ?_
  unfold setWalk
  refine wpAny_bind (wpAny_setState_of ho d f ?_)
  refine wpAny_bind (setsByText_is ?_)
  rw [hb,if_pos rfl]
  exact wpAny_bind (wpAny_askSetting (wpAny_pure (wpAny_pure h)))
 refine ⟨fun A E s slot i v Q ho hs hv h=>get A E s slot i Q ho ?_,fun A E s slot Q ho hs h=>get A E s slot _ Q ho ?_⟩
 ·rw [List.getElem?_map,Option.map_eq_some_iff] at hv
  obtain ⟨e,he,rfl⟩:=hv
  rw [Array.getElem?_toList] at he
  rw [he]; exact h _ hs
 ·rw [List.length_map,Array.length_toList,Array.getElem?_eq_none (Nat.le_refl _)]; exact h
theorem nx_tab (hb:w.params.followText "set-order" = false) (d:o.data = .set es ep t) (f:t.fits es.size = true) (ok:TOk true t) (hd:(!t.plain && decide (es.size > 1)) = false) :
  SNx prog w r o (es.toList.map (·.2)) ep (fun slot i=>SetTable.below t.place slot = i):=by
 have hps:t.place.size = es.size:=by
  unfold SetTable.fits at f
  simp only [Bool.and_eq_true,beq_iff_eq] at f
  exact f.1
 have get:∀ (A:Around) (E:Value→Shared→Prop) (s:Shared) (slot i:Nat) (Q:Option (Value×Nat)→Shared→Prop),s.heap.get? r = some o →
   Q (match es[SetTable.below t.place slot]?,t.place[SetTable.below t.place slot]? with | some (_,x),some j=>some (x,j + 1) | _,_=>none) s→wpAny (model prog w) A (setNext r slot i ep) Q E s:=fun A E s slot i Q ho h=>by
  unfold setNext
  refine wpAny_bind (wpAny_setState_of ho d f ?_)
  refine wpAny_bind (setsByText_is ?_)
  rw [hb,if_neg (by simp)]
  refine wpAny_ite_split (fun hab=>absurd (show (!t.plain && decide (es.size > 1)) = true from hab) (by rw [hd]; simp)) fun o9=>?_
  refine wpAny_bind ?_
  show wpAny _ _ (if (!t.led && !es.isEmpty) = true then _ else _) _ _ _
  rw [ok.led,if_neg (by simp)]
  exact wpAny_pure (wpAny_pure h)
 refine ⟨fun A E s slot i v Q ho hs hv h=>get A E s slot i Q ho ?_,fun A E s slot Q ho hs h=>get A E s slot _ Q ho ?_⟩
 ·rw [hs]
  rw [List.getElem?_map,Option.map_eq_some_iff] at hv
  obtain ⟨e,he,rfl⟩:=hv
  rw [Array.getElem?_toList] at he
  have hi:i < t.place.size:=by rw [hps]; exact (Array.getElem?_eq_some_iff.mp he).1
  rw [he,Array.getElem?_eq_getElem hi]
  exact h _ (below_next ok.rise (by rw [Array.getElem?_toList]; exact Array.getElem?_eq_getElem hi))
 ·rw [hs,List.length_map,Array.length_toList,Array.getElem?_eq_none (Nat.le_refl _)]; exact h
theorem fm_map (ps:List Nat):(∀ p∈ps,p < es.size)→(ps.filterMap fun p=>es[p]?.map (·.2)) = ps.map fun p=>(es.getD p (0,.none)).2:=by
 induction ps with
 | nil=>intro o9; rfl
 | cons p ps ih =>
  intro hps
  have h0:=hps p (.head _)
  rw [List.filterMap_cons,Array.getElem?_eq_getElem h0,List.map_cons,← ih (fun q hq=>hps q (.tail _ hq))]
  simp [Array.getD,h0]
theorem walk_drawn {ps:List Nat} {T:Addr} (d:o.data = .set es ep t) (f:t.fits es.size = true) (hI:r≠I) (hT:T≠I) (hh:A.handled = none) (hp:ps.Perm (List.range es.size)) :
  Walks prog w A I [I,r,T] [I] es.size (fun i v=>(ps.filterMap fun p=>es[p]?.map (·.2))[i]? = some v)
   (fun i h=>h.get? I = some (sitO (.ref T) i r es.size ep)∧h.get? r = some o∧h.get? T = some { cls:=.type "tuple",data:=.seq (ps.map fun p:Nat=>rawInt p).toArray }) where
 sub:=fun b hb=>by simp at hb; simp [hb]
 frame:=fun i h h' st hk=>⟨hk I (by simp) _ st.1,hk r (by simp) _ st.2.1,hk T (by simp) _ st.2.2⟩
 item:=fun i s Q E hi st hQ=>by
  obtain ⟨h1,h2,h3⟩:=st
  have hl:ps.length = es.size:=by rw [hp.length_eq,List.length_range]
  have hps:∀ p∈ps,p < es.size:=fun p h=>by simpa using hp.mem_iff.mp h
  have hi':i < ps.length:=by rw [hl]; exact hi
  have hpi:=hps ps[i] (List.getElem_mem hi')
  have hv:(ps.filterMap fun p=>es[p]?.map (·.2))[i]? = some (es[ps[i]]).2:=by
   rw [fm_map ps hps,List.getElem?_map,List.getElem?_eq_getElem hi']
   simp [Array.getD,hpi]
  refine next_sit h1 rfl ?_
  unfold Builtin.«set_iterator.__next__»
  refine wpAny_bind (wpAny_pure ?_)
  refine wpAny_bind (wpAny_fieldsOf h1 rfl ?_)
  refine wpAny_bind (wpAny_setEntries_of h2 d f ?_)
  rw [if_neg (by simp)]
  refine wpAny_bind (wpAny_seqItems h3 rfl ?_)
  show wpAny _ _ (match (ps.map fun p:Nat=>rawInt p).toArray[((i:Nat):Int).toNat]? with | some (.int place _)=>_ | some _=>_ | none=>_) _ _ _
  rw [Int.toNat_natCast,List.getElem?_toArray,List.getElem?_map,List.getElem?_eq_getElem hi']
  refine wpAny_bind ?_
  unfold setNextDrawn
  refine wpAny_bind (wpAny_setState_of h2 d f ?_)
  show wpAny _ _ (if (ep != ((ep:Nat):Int).toNat) = true then _ else _) _ _ _
  rw [if_neg (by simp)]
  show wpAny _ _ (match es[((ps[i]:Nat):Int).toNat]? with | some (_,x)=>_ | _=>_) _ _ _
  rw [Int.toNat_natCast,Array.getElem?_eq_getElem hpi]
  refine wpAny_pure ?_
  refine wpAny_bind (wpAny_setField h1 rfl (by simp) ?_)
  have g2:=Heap.get?_update_self (Obj.mapFields (·.setIfInBounds 1 (rawInt (((i:Nat):Int) + 1)))) h1 rfl
  exact wpAny_pure ⟨_,rfl,hQ _ _ _ hv ⟨g2,upd_keep (by simpa using hI) h2,upd_keep (by simpa using hT) h3⟩ fun a ob ha e=>upd_keep ha e⟩
 done:=fun s Q E st hQ=>by
  obtain ⟨h1,h2,h3⟩:=st
  have hl:ps.length = es.size:=by rw [hp.length_eq,List.length_range]
  refine next_sit h1 rfl ?_
  unfold Builtin.«set_iterator.__next__»
  refine wpAny_bind (wpAny_pure ?_)
  refine wpAny_bind (wpAny_fieldsOf h1 rfl ?_)
  refine wpAny_bind (wpAny_setEntries_of h2 d f ?_)
  rw [if_neg (by simp)]
  refine wpAny_bind (wpAny_seqItems h3 rfl ?_)
  show wpAny _ _ (match (ps.map fun p:Nat=>rawInt p).toArray[((es.size:Nat):Int).toNat]? with | some (.int place _)=>_ | some _=>_ | none=>_) _ _ _
  rw [Int.toNat_natCast,List.getElem?_toArray,List.getElem?_eq_none (by rw [List.length_map,hl]; exact Nat.le_refl _)]
  refine wpAny_bind (wpAny_setField h1 rfl (by simp) ?_)
  have g1:=sit_set (.ref T) es.size 0 (rawInt 0) es.size ep h1
  refine wpAny_bind (wpAny_setField g1 rfl (by simp) ?_)
  exact raise_stop hh fun h' hk=>hQ h' s.toks fun a ob ha e=>hk a ob (upd_keep ha (upd_keep ha e))
 self:=fun i s Q E st hQ=>iter_sit st.1 rfl hQ
end
theorem ints_are {l:List Value}:(∀ v∈l,∃ n k,v = .int n k)→IntsAre l (l.map vint):=by
 induction l with
 | nil=>intro o9; exact .nil
 | cons v l ih =>
  intro h
  obtain ⟨n,k,rfl⟩:=h v (.head _)
  exact .cons n k (ih fun u hu=>h u (.tail _ hu))
inductive SIter (prog:Program) (w:World) (ns:List Int) (r:Addr) (s:Shared) (I:Addr) (h':Heap):Prop
 | mk (fp:List Addr) (l:List Value) (vs:List Int) (St:Nat→Heap→Prop) (k:∀ a ob,s.heap.get? a = some ob→h'.get? a = some ob) (n:s.heap.get? I = none) (f:∀ b∈fp,b = r∨s.heap.get? b = none) (i:IntsAre l vs) (p:vs.Perm ns)
   (W:∀ A:Around,A.handled = none→Walks prog w A I fp [I] l.length (fun i v=>l[i]? = some v) St) (st:St 0 h')
section
variable {prog:Program} {w:World} {A:Around} {E:Value→Shared→Prop} {s:Shared} {r:Addr} {o:Obj}
theorem size_none (h:Heap) {a:Addr} (ha:h.objs.size≤a):h.get? a = none:=by
 cases q:h.get? a with
 | none=>rfl
 | some o=>exact absurd (Heap.lt_size q) (Nat.not_lt.mpr ha)
theorem iter_set {ns:List Int} {Q:Value→Shared→Prop} (ho:s.heap.get? r = some o) (hS:ISet (ledOf w) o ns) (h:∀ I h' dr,SIter prog w ns r s I h'→Q (.ref I) { s with heap:=h',drawn:=dr }):wpAny (model prog w) A (pyIter (.ref r)) Q E s:=by
 have hS0:=hS
 obtain ⟨es,ep,t,x,d,el,e,nd,bd,f,ok⟩:=hS
 have hz:es.size≤sizeLine:=fits_of_scanBound bd
 have inn:∀ l:List (Int×Value),l.Perm es.toList→IntsAre (l.map (·.2)) ((l.map (·.2)).map vint)∧((l.map (·.2)).map vint).Perm ns:=fun l p=>by
  refine ⟨ints_are fun v hv=>?_,?_⟩
  ·obtain ⟨a,ha,rfl⟩:=List.mem_map.mp hv
   obtain ⟨n,k,rfl⟩:=el a (p.mem_iff.mp ha)
   exact ⟨n,k,rfl⟩
  ·rw [List.map_map,← e]; exact p.map _
 have hlen:es.size = ns.length:=by rw [← e,List.length_map,Array.length_toList]
 have hnr:r≠s.heap.objs.size:=Nat.ne_of_lt (Heap.lt_size ho)
 refine wpAny_pyIter_slot ⟨o,ho,x.1⟩ F.slot_set_iter (wpAny_call_entry F.slot_set_iter ⟨o,ho,x.1⟩ entry_set_iter ?_ (F.args_set_iter_1 _))
 unfold Builtin.«frozenset.__iter__» Builtin.Frozenset.slot0
 refine wpAny_bind (wpAny_bind (wpAny_pure (wpAny_pure ?_)))
 unfold Builtin.Frozenset.sizeOf
 refine wpAny_bind (wpAny_bind (wpAny_setEntries_of ho d f (wpAny_pure ?_)))
 refine wpAny_bind (m:=setDrawn r) ?_
 unfold setDrawn
 refine wpAny_bind (wpAny_setState_of ho d f ?_)
 refine wpAny_bind (setsByText_is (wpAny_pure ?_))
 have tab:∀ (Nx:Nat→Nat→Prop) (l:List (Int×Value)),l.Perm es.toList→SNx prog w r o (l.map (·.2)) ep Nx→Nx 0 0 →
   wpAny (model prog w) A.in1 (do let a ← setEpoch r; let v ← newFields "set_iterator" [rawInt 0,rawInt 0,.ref r,rawInt es.size,rawInt a]; ret v) (fun fin s'=>∃ v,fin = .done (.ret v)∧∃ T' r,s'.TypeIs v T'∧typeLookup (.type T') "__next__" = pure (some r)∧Q v s') E s:=fun Nx l p N h0=>by
  refine wpAny_bind (wpAny_setEpoch_of ho d f ?_)
  refine wpAny_bind (wpAny_newObj_type (wpAny_pure ⟨_,rfl, "set_iterator",_,⟨_,Heap.get?_push_size _ rfl,rfl⟩,slot_sit_next.lookup,?_⟩))
  obtain ⟨i1,i2⟩:=inn l p
  have hl:(l.map (·.2)).length = es.size:=by rw [List.length_map,p.length_eq,Array.length_toList]
  refine h s.heap.objs.size _ s.drawn ⟨[s.heap.objs.size,r],_,_,_,fun a ob e=>Heap.get?_push_of_some _ e,size_none _ (Nat.le_refl _),fun b hb=>?_,i1,i2,fun A hh=>walk_tab hS0 (by rw [hl,hlen]) hnr hh N,⟨⟨0,h0,?_⟩,Heap.get?_push_of_some _ ho⟩⟩
  ·rcases List.mem_cons.mp hb with rfl | hb
   ·exact .inr (size_none _ (Nat.le_refl _))
   ·exact .inl (List.mem_singleton.mp hb)
  ·rw [hl]; exact Heap.get?_push_size _ rfl
 by_cases hb:w.params.followText "set-order" = true
 ·rw [hb]
  refine wpAny_bind (wpAny_pure ?_)
  refine tab (fun slot o9=>slot = 0) (pickOrder (w.params.setOrder r ep) es).toList ?_ (nx_text hb d f) rfl
  exact pick_go _ _ 0 _ #[] (Array.length_toList ..)
 ·have hb:w.params.followText "set-order" = false:=by simpa using hb
  have ok':TOk true t:=by rw [show true = ledOf w by rw [ledOf,hb]; rfl]; exact ok
  rw [hb]
  by_cases hd:(!t.plain && decide (es.size > 1)) = true
  ·refine wpAny_ite_split (fun o9=>?_) fun hab=>absurd (show (!false && (!t.plain && decide (es.size > 1))) = true by rw [hd]; rfl) hab
   refine wpAny_bind (draw_order _ _ _ _ List.length_range fun ps dr p=>wpAny_bind (wpAny_newTuple ?_ (by rw [List.length_map,p.length_eq,List.length_range]; exact hz)))
   dsimp only
   have ho':(s.heap.push { cls:=.type "tuple",data:=.seq (ps.map fun i:Nat=>rawInt i).toArray }).get? r = some o:=Heap.get?_push_of_some _ ho
   have hz1:(s.heap.push { cls:=.type "tuple",data:=.seq (ps.map fun i:Nat=>rawInt i).toArray }).objs.size = s.heap.objs.size + 1:=Heap.size_push ..
   refine wpAny_bind (wpAny_setEpoch_of ho' d f ?_)
   refine wpAny_bind (wpAny_newObj_type (wpAny_pure ⟨_,rfl, "set_iterator",_,⟨_,Heap.get?_push_size _ rfl,rfl⟩,slot_sit_next.lookup,?_⟩))
   have hps:∀ q∈ps,q < es.size:=fun q hq=>by simpa using p.mem_iff.mp hq
   have pp:(ps.filterMap fun q=>es[q]?).Perm es.toList:=(p.filterMap _).trans (List.Perm.of_eq (filterMap_getElem?_range es))
   have e1:(ps.filterMap fun q=>es[q]?.map (·.2)) = (ps.filterMap fun q=>es[q]?).map (·.2):=by rw [List.map_filterMap]
   obtain ⟨i1,i2⟩:=inn _ pp
   have hl:((ps.filterMap fun q=>es[q]?).map (·.2)).length = es.size:=by rw [List.length_map,pp.length_eq,Array.length_toList]
   have W:=fun (A:Around) (hh:A.handled = none)=>walk_drawn (prog:=prog) (w:=w) (A:=A) (T:=s.heap.objs.size) d f (I:=s.heap.objs.size + 1) (r:=r) (Nat.ne_of_lt (Nat.lt_succ_of_lt (Heap.lt_size ho))) (Nat.ne_of_lt (Nat.lt_succ_self _)) hh p
   rw [e1,← hl] at W
   rw [hz1]
   refine h _ _ dr ⟨[s.heap.objs.size + 1,r,s.heap.objs.size],_,_,_,fun a ob e=>Heap.get?_push_of_some _ (Heap.get?_push_of_some _ e),size_none _ (Nat.le_succ _),fun b hb=>?_,i1,i2,W,⟨by rw [hl,← hz1]; exact Heap.get?_push_size _ rfl,Heap.get?_push_of_some _ ho',Heap.get?_push_of_some _ (Heap.get?_push_size _ rfl)⟩⟩
   simp only [List.mem_cons,List.not_mem_nil,or_false] at hb
   rcases hb with rfl | rfl | rfl
   ·exact .inr (size_none _ (Nat.le_succ _))
   ·exact .inl rfl
   ·exact .inr (size_none _ (Nat.le_refl _))
  ·have hd:(!t.plain && decide (es.size > 1)) = false:=by simpa using hd
   refine wpAny_ite_split (fun hab=>absurd (show (!false && (!t.plain && decide (es.size > 1))) = true from hab) (by rw [hd]; simp)) fun o9=>?_
   refine wpAny_bind (wpAny_pure ?_)
   exact tab (fun slot i=>SetTable.below t.place slot = i) es.toList (List.Perm.refl _) (nx_tab hb d f ok' hd) (below_zero ok'.rise)
end
section
variable {prog:Program} {w:World} {A:Around} {E:Value→Shared→Prop} {s:Shared} {r:Addr} {o:Obj}
theorem hint_set {Q:Bool→Shared→Prop} (hT:s.TypeIs (.ref r) "set") (h:Q false s):wpAny (model prog w) A (Builtin.List.listLengthHint (.ref r)) Q E s:=by
 unfold Builtin.List.listLengthHint
 refine wpAny_bind (wpAny_specialOf hT PySem.F.slot_set_len.lookup ?_)
 generalize hid:("set.__len__":String) = id0
 wp_delta
 rw [show splitId id0 = some ("set", "__len__") from by subst hid; decide +kernel]
 subst hid
 refine wpAny_bind (wpAny_isInstance (T:="set") (b:=true) hT (by rw [isSubtype_type]; kernel_rfl) ?_)
 refine wpAny_ite_split (fun hab=>absurd hab (by decide)) (fun o9=>?_)
 refine wpAny_ite_split (fun o9=>?_) (fun hab=>absurd (by decide +kernel) hab)
 refine wpAny_bind (wpAny_typeOf hT ?_)
 exact wpAny_pure h
theorem items_are {l:List Value} {acc:Array Value} (h:ItemsOf (fun i v=>l[i]? = some v) acc l.length):acc.toList = l:=by
 refine List.ext_getElem? fun i=>?_
 rw [Array.getElem?_toList]
 cases e:acc[i]? with
 | some v=>exact (h.2 i v e).symm
 | none =>
  have:=Array.getElem?_eq_none_iff.mp e
  rw [h.1] at this
  exact (List.getElem?_eq_none this).symm
theorem collect_set {ns:List Int} {Q:List Value→Shared→Prop} (hh:A.handled = none) (ho:s.heap.get? r = some o) (hS:ISet (ledOf w) o ns)
  (h:∀ h' dr tk l vs,(∀ a ob,s.heap.get? a = some ob→h'.get? a = some ob)→IntsAre l vs→vs.Perm ns→Q l { s with heap:=h',drawn:=dr,toks:=tk }):wpAny (model prog w) A (collect (.ref r)) Q E s:=by
 have hx:o.cls = .type "set":=by obtain ⟨_,_,_,x,_⟩:=hS; exact x.1
 have hn:ns.length≤sizeLine:=by
  obtain ⟨es,_,_,_,_,_,e,_,bd,_,_⟩:=hS
  rw [← e,List.length_map,Array.length_toList]; exact fits_of_scanBound bd
 unfold collect
 refine wpAny_bind (wpAny_runValue (codeAny_builtin PySem.F.entry_proto_collect ?_))
 rw [Around.under_plainId PySem.F.plain_proto_collect _]
 show wpAny _ A.in1 (newList [] >>= fun l=>again (.builtin "list.__iadd__" ⟨[l,.ref r],[]⟩)) _ _ s
 refine wpAny_bind (wpAny_newObj_type ?_)
 refine wpAny_pure ⟨plainId_quiet PySem.F.plain_list_iadd _,codeAny_builtin PySem.F.entry_list_iadd ?_⟩
 rw [Around.under_plainId PySem.F.plain_list_iadd _]
 have hSr:s.heap.objs.size≠r:=Nat.ne_of_gt (Heap.lt_size ho)
 have ho₁:(s.heap.push { cls:=.type "list",data:=.seq ([]:List Value).toArray }).get? r = some o:=Heap.get?_push_of_some _ ho
 show wpAny _ A.in1 (Builtin.List.listExtendWith (.ref s.heap.objs.size) (.ref r) (.ref s.heap.objs.size)) _ _ _
 unfold Builtin.List.listExtendWith
 refine wpAny_bind (wpAny_typeOf (T:="set") ⟨o,ho₁,hx⟩ ?_)
 have h1:Builtin.List.listSameRef (.ref s.heap.objs.size) (.ref r) = false:=by simp [Builtin.List.listSameRef,hSr]
 have h2:(Value.type "set" == Value.type "list") = false:=by decide
 have h3:(Value.type "set" == Value.type "tuple") = false:=by decide
 rw [h1,h2,h3]
 refine wpAny_bind (iter_set ho₁ hS fun I h' dr it=>?_)
 obtain ⟨fp,l,vs,St,k,n,f,i,p,W,st⟩:=it
 have hS₁:=k s.heap.objs.size _ (Heap.get?_push_size _ rfl)
 have hSf:s.heap.objs.size∉fp:=fun hm=>by
  rcases f _ hm with q | q
  ·exact hSr q
  ·exact dNS (q.symm.trans (Heap.get?_push_size _ rfl))
 have hl:l.length = ns.length:=by
  rw [← p.length_eq]
  have:∀ {l:List Value} {ns:List Int},IntsAre l ns→l.length = ns.length:=fun h=>by induction h <;> simp_all
  exact this i
 have key:∀ (RR:Result→Shared→Prop) (h₂:Heap) (tk:Nat) (c:Nat),St 0 h₂→(∀ a ob,a≠s.heap.objs.size→h'.get? a = some ob→h₂.get? a = some ob)→h₂.get? s.heap.objs.size = some { cls:=.type "list",dict:=none,data:=.seq #[] c,slots:=#[] } →
   (∀ h₃ tk acc c',h₃.get? s.heap.objs.size = some { cls:=.type "list",dict:=none,data:=.seq acc c',slots:=#[] }→acc.toList = l→(∀ a ob,s.heap.get? a = some ob→h₃.get? a = some ob)→RR (.ok (.ret (.ref s.heap.objs.size))) { s with heap:=h₃,drawn:=dr,toks:=tk }) →
   codeAny (model prog w) A (.builtin "list.extend.loop" ⟨[.ref s.heap.objs.size,.ref I,.ref s.heap.objs.size],[]⟩) RR { s with heap:=h₂,drawn:=dr,toks:=tk }:=fun RR h₂ tk c st₂ k₂ hS₂ hR=>by
  refine codeAny_extend_loopS (W A.in1 hh).toS (by rw [hl]; exact hn) _ hSf _ l.length 0 _ #[] c rfl (Nat.zero_le _) st₂ hS₂ (ItemsOf.nil _) fun s' acc' c' hm hS' hacc=>?_
  rw [Moved.eq_with hm]
  refine hR s'.heap s'.toks acc' c' hS' (items_are hacc) (fun a ob e=>?_)
  have hne:a≠s.heap.objs.size:=Nat.ne_of_lt (Heap.lt_size e)
  have e1:=k _ _ (Heap.get?_push_of_some { cls:=.type "list",data:=.seq ([]:List Value).toArray } e)
  refine hm.heap a ob (fun hmem=>?_) (k₂ a ob hne e1)
  rcases List.mem_cons.mp hmem with q | q
  ·exact hne q
  ·rw [List.mem_singleton.mp q] at e
   exact dSN ((Heap.get?_push_of_some _ e).symm.trans n)
 refine wpAny_bind (wpAny_holding (hint_set (s:={ s with heap:=h',drawn:=dr }) ⟨o,k _ _ ho₁,hx⟩ ?_))
 have fin:∀ h₃ tk acc c',h₃.get? s.heap.objs.size = some { cls:=.type "list",dict:=none,data:=.seq acc c',slots:=#[] }→acc.toList = l→(∀ a ob,s.heap.get? a = some ob→h₃.get? a = some ob)→Q acc.toList { s with heap:=h₃,drawn:=dr,toks:=tk }:=fun h₃ tk acc c' o9 e1 e2=>by
  rw [e1]; exact h h₃ dr tk l vs e2 i p
 refine wpAny_ite_split (fun o9=>?_) (fun o9=>wpAny_pure ⟨plainId_quiet PySem.F.plain_extend_loop _,key _ h' s.toks _ st (fun a ob o9 e=>e) hS₁ fun h₃ tk acc c' g1 g2 g3=>wpAny_bind (wpAny_load g1 (wpAny_pure (fin h₃ tk acc c' g1 g2 g3)))⟩)
 refine wpAny_bind (wpAny_rule (wpAny_bind ?_))
 show wpAny _ A.in1 (updateSeq s.heap.objs.size (·.push .none) >>= fun o9=>updateSeq s.heap.objs.size (·.pop)) _ _ _
 refine wpAny_bind (wpAny_updateSeq (s:={ s with heap:=h',drawn:=dr }) hS₁ rfl ?_)
 have hS₂:=Heap.get?_update_self (Obj.mapSeq (·.push Value.none)) hS₁ rfl
 refine wpAny_updateSeq (hz:=by seq_fits) hS₂ rfl ?_
 have hS₃:=Heap.get?_update_self (Obj.mapSeq (·.pop)) hS₂ rfl
 have k₂:∀ a ob,a≠s.heap.objs.size→h'.get? a = some ob→((h'.update s.heap.objs.size (Obj.mapSeq (·.push Value.none))).update s.heap.objs.size (Obj.mapSeq (·.pop))).get? a = some ob:=fun a ob ha e=>(Heap.get?_update_other _ _ (Ne.symm ha)).trans ((Heap.get?_update_other _ _ (Ne.symm ha)).trans e)
 exact wpAny_pure ⟨plainId_quiet PySem.F.plain_extend_loop _,key _ _ s.toks _ ((W A hh).frame 0 _ _ st fun b hb ob e=>k₂ b ob (fun q=>hSf (q ▸ hb)) e) k₂ hS₃ fun h₃ tk acc c' g1 g2 g3=>wpAny_bind (wpAny_load g1 (wpAny_pure (fin h₃ tk acc c' g1 g2 g3)))⟩
end
theorem reps_ints {Φ:Fz} {l:List Int}:∀ {vs:List Value},Reps Φ (l.map PyData.int) vs→IntsAre vs l:=by
 induction l with
 | nil=>intro vs h; obtain rfl:vs = []:=h; exact .nil
 | cons n l ih =>
  intro vs h
  obtain ⟨v,r,rfl,⟨t,rfl⟩,h⟩:=h
  exact .cons n t (ih h)
theorem ints_reps {Φ:Fz} {vs:List Value} {l:List Int} (h:IntsAre vs l):Reps Φ (l.map PyData.int) vs:=by
 induction h with
 | nil=>rfl
 | cons n t _ ih=>exact ⟨_,_,rfl,⟨t,rfl⟩,ih⟩
section
variable {n:Nat} {K:Kx} {R:Rsc} {G:Ent} {sc:Scope} {env:Env} {ρ ρc:Rho} {S:R.σ} {Φ:Fz} {s:Shared}
theorem start_in {prog:Program} {w:World} {A:Around} {RR:Result→Shared→Prop} {elt:Expr} {g1:Comprehension} {target iter:Expr} {ifs:List Expr} {scope:Scope} {pos:Pos} {it acc:Value} {s:Shared}
  (h0:codeAny (model prog w) A (.compLoop (.ListComp elt [g1,⟨target,iter,ifs,0⟩] scope pos) 1 it acc env) RR s)
  (h:wpAny (model prog w) A (pyIter it) (fun it' s'=>codeAny (model prog w) A (.compLoop (.ListComp elt [g1,⟨target,iter,ifs,0⟩] scope pos) 1 it' acc env) RR s') (fun o9 o9=>False) s) :
  codeAny (model prog w) A (.compStart (.ListComp elt [g1,⟨target,iter,ifs,0⟩] scope pos) 1 it acc env) RR s:=by
 refine codeAny_of_tree ?_
 show wpAny _ _ ((compStart (.ListComp elt [g1,⟨target,iter,ifs,0⟩] scope pos) 1 it acc env).onRaise (fun x=>do noteFrame x env; standAt theWindowsPlace)) _ _ s
 refine wpAny_notedAt ?_
 unfold compStart
 show wpAny _ _ (ask >>= _) _ _ s
 refine wpAny_bind (wpAny_askSetting (wpAny_ite ?_))
 split
 ·exact wpAny_bind (wpAny_pure (wpAny_pure (And.intro rfl h0)))
 ·refine wpAny_bind (wpAny_rule ?_)
  show wpAny _ _ (standAt iter.pos >>= _) _ _ s
  exact wpAny_bind (wpAny_standAt (wpAny_bind (wpAny_mono h (fun it' s' h'=>wpAny_pure (And.intro rfl h')) fun o9 o9 x=>x.elim)))
variable {α β:Type}
structure Comp2C (n:Nat) (K:Kx) (R:Rsc) (sc:Scope) (ρ:Rho) (S:R.σ) (elt t1 t2 i1 i2:Expr) (ifs:List Expr) (scope:Scope) (ρc:Rho) (l:List α) (enc:α→D) (m:α→List β) (enc2:β→D) (g:α→β→List PyData) (ρ1:α→Rho) (ρ2:α→β→Rho):Prop where
 rho:RhoIn scope sc ρ ρc
 inj1:∀ x y,enc x = enc y→x = y
 inj2:∀ x y,enc2 x = enc2 y→x = y
 tg1:∀ x∈l,Tgt n K R (relabelS scope sc) (mineOf scope) t1 (enc x) ρc (ρ1 x)
 src2:∀ x∈l,WI n K R (relabelS scope sc) (ρ1 x) S i2 .frz fun ds' S'=>S' = S∧ds' = (m x).map enc2
 tg2:∀ x∈l,∀ y∈m x,Tgt n K R (relabelS scope sc) (mineOf scope) t2 (enc2 y) (ρ1 x) (ρ2 x y)
 em:∀ x∈l,∀ y∈m x,Emits n K R (relabelS scope sc) (ρ2 x y) S ifs elt (g x y)
 sz:(l.flatMap fun x=>(m x).flatMap (g x)).length≤sizeLine
 fold1:∀ env x,foldedSetIterable i1 env x = pure x
 fold2:∀ env x,foldedSetIterable i2 env x = pure x
theorem comp2 {A:Around} {E:Value→Shared→Prop} {elt t1 t2 i1 i2:Expr} {ifs:List Expr} {scope:Scope} {pos cpos:Pos} {first:Sem Value} {use:Option (Value→Sem Unit)} {Q:Value→Shared→Prop} {ρc:Rho} {fz:Sk} {l:List α} {enc:α→D} {m:α→List β} {enc2:β→D} {g:α→β→List PyData} {ρ1:α→Rho} {ρ2:α→β→Rho}
  (ok:OkayG n A G) (hpos:0 < n) (I:Inv K R G sc env ρ S Φ s) (hsc:ScopeOk scope sc) (hsrc:wpAny K.M A first (fun x s₁=>wpAny K.M A (pyIter x) (PIE K R G sc env ρ S Φ s fz t1 fun ds' S'=>S' = S∧ds' = l.map enc) (fun o9 o9=>False) s₁) (fun o9 o9=>False) s) (c2:Comp2C n K R sc ρ S elt t1 t2 i1 i2 ifs scope ρc l enc m enc2 g ρ1 ρ2)
  (h:∀ cenv a Φ' s',CI K R { G with mine:=mineOf scope } (relabelS scope sc) cenv ρc S Φ s a (l.flatMap fun x=>(m x).flatMap (g x)) Φ' s'→compPost K.M A E use Q (.ref a) cenv.locals (.ok .next) s') :
  wpAny K.M A (comprehension (.ListComp elt [⟨t1,i1,[],0⟩,⟨t2,i2,ifs,0⟩] scope pos) scope env cpos (newList []) false first use) Q E s:=by
  obtain ⟨hρ,inj1,inj2,tg1,src2,tg2,em,hsz,hs,hs2⟩:=c2
  classical
  have un:∀ {γ:Type} (e:γ→D) (h:γ→List PyData) (l:List γ),(∀ x y,e x = e y→x = y)→∃ f:D→List PyData,(∀ x,f (e x) = h x)∧(l.map e).flatMap f = l.flatMap h:=fun e h l inj=>by
   refine ⟨fun d=>if hx:∃ x,e x = d then h hx.choose else [],?_,?_⟩
   ·intro x
    have hex:∃ y,e y = e x:=⟨x,rfl⟩
    show (if hx:∃ y,e y = e x then h hx.choose else []) = h x
    rw [dif_pos hex,inj _ _ hex.choose_spec]
   ·induction l with
    | nil=>rfl
    | cons x r ih =>
     rw [List.map_cons,List.flatMap_cons,List.flatMap_cons,ih]
     congr 1
     have hex:∃ y,e y = e x:=⟨x,rfl⟩
     show (if hx:∃ y,e y = e x then h hx.choose else []) = h x
     rw [dif_pos hex,inj _ _ hex.choose_spec]
  obtain ⟨f,hf,hfm⟩:=un enc (fun x=>(m x).flatMap (g x)) l inj1
  refine comp_head ok hpos I hsc hsrc hρ hs fun cenv a I₁ pr fp St Φ₁ s₁ C it src hst hfp=>?_
  refine comp_loop (f:=f) (target:=t1) ok.toOkay hpos (T:=fun v=>(do
    assign t1 cenv v
    let x ← eval i2 cenv
    standAt i2.pos
    let x ← foldedSetIterable i2 cenv x
    let _ ← runOwn (.compStart (.ListComp elt [⟨t1,i1,[],0⟩,⟨t2,i2,ifs,0⟩] scope pos) 1 (← holding [x] (pyIter x)) (.ref a) cenv) cenv
    again (.compLoop (.ListComp elt [⟨t1,i1,[],0⟩,⟨t2,i2,ifs,0⟩] scope pos) 0 (.ref I₁) (.ref a) cenv))) (pp:=i1.pos) rfl src hfp (fun d v Φ₂ s₂ ys hd C₂ hr hlen=>?_) C it hst (by rw [hfm,List.length_nil,Nat.zero_add]; exact hsz) (C.step.weaken fun b hb=>.inl hb) (fun p hp=>(it.no p hp).2.2.2) fun Φ' s' C' o9=>?_
  case _ =>
   obtain ⟨x,hx,rfl⟩:=List.mem_map.mp hd
   rw [hf] at hlen ⊢
   obtain ⟨xs,fa,ha,hm,e,hown⟩:=(tg1 x hx).asg
   refine wpAny_bind (ha A { G with mine:=mineOf scope } cenv ρc S Φ₂ s₂ v ⟨ok.toOkay,ok.fr⟩ hm C₂.inv hr _ _ fun s₃ I₃ st₃ ot₃=>?_)
   rw [e] at I₃
   have C₃:=C₂.bound hm I₃ st₃ ot₃ hown
   have w₃:∀ b,Places cenv xs b→Tmp R S { G with mine:=mineOf scope } cenv a b:=fun b hb=>by
    rcases hb with h | ⟨y,hy,hc⟩
    ·exact .inr (.inr (.inl h))
    ·exact .inr (.inr (.inr ⟨y,hm y hy,hc⟩))
   refine wpAny_bind (wpAny_mono ((src2 x hx).e (target:=t2) A { G with mine:=mineOf scope } cenv Φ₂ _ ⟨ok.toOkay,ok.fr⟩ C₃.inv) (fun v2 s₄ h₄=>?_) fun o9 o9 z=>z.elim)
   refine wpAny_bind (wpAny_standAt (wpAny_bind (wpAny_of_eq (hs2 cenv v2) ?_)))
   refine wpAny_bind (wpAny_holding (wpAny_mono h₄ (fun it2 s₅ p=>?_) fun o9 o9 z=>z.elim))
   cases p with
   | mk Φ₅ S₅ ds₅ I₅ pr₅ fp₅ St₅ x₅ e₅ hp₅ g₅ hst₅ hf₅ q₅ =>
   obtain ⟨q1,q2⟩:=q₅
   have q1':=q1.symm
   subst e₅ q1' q2
   obtain ⟨f2,hf2,hfm2⟩:=un enc2 (g x) (m x) inj2
   have C₅:=C₃.after x₅
   have st₅:=(st₃.weaken w₃).trans x₅.step fun b hb=>.inl (.inl hb)
   refine wpAny_bind (wpAny_runOwn ?_)
   have loop:=comp_loop (f:=f2) (target:=t2) (depth:=1) (elt:=elt) (gens:=[⟨t1,i1,[],0⟩,⟨t2,i2,ifs,0⟩]) (scope:=scope) (pos:=pos) (I:=I₅) (fz:=.frz) (RR:=fun r s'=>r = .ok .next∧∃ Φ',CI K R { G with mine:=mineOf scope } (relabelS scope sc) cenv ρc S Φ s a (ys ++ (m x).flatMap (g x)) Φ' s'∧Step (Tmp R S { G with mine:=mineOf scope } cenv a) Φ₂ s₂ Φ' s') ok.toOkay hpos (T:=fun v=>(do
     assign t2 cenv v
     let mut ok:=true
     for c in ifs do
      if ok then ok ← isTrue c cenv (eval c cenv)
     if ok then
      (do let _ ← call (.builtin "list.append") [.ref a,← eval elt cenv])
     again (.compLoop (.ListComp elt [⟨t1,i1,[],0⟩,⟨t2,i2,ifs,0⟩] scope pos) 1 (.ref I₅) (.ref a) cenv))) (pp:=i2.pos) rfl g₅ (fun b hb=>(hf₅ b hb).imp id fun h=>h.imp id fun h=>by rcases h with ⟨z,_⟩ | ⟨z,_⟩ <;> cases z) (fun d2 v Φ₆ s₆ ys hd2 C₆ hr6 hlen6=>by
      obtain ⟨y,hy,rfl⟩:=List.mem_map.mp hd2
      rw [hf2] at hlen6 ⊢
      exact comp1_turn ⟨ok.toOkay,ok.fr⟩ C₆ hr6 (tg2 x hx y hy) (em x hx y hy) hlen6) C₅ ⟨Le.refl _,fun p hp=>⟨(hp₅ p hp).2.1,(hp₅ p hp).2.2,I.gone (heap_none_of_step C₃.step (hp₅ p hp).1),heap_none_of_step C₃.step (hp₅ p hp).1⟩⟩ hst₅ (by rw [hfm2]; exact hlen) st₅ (fun p hp=>heap_none_of_step st₃ (hp₅ p hp).1) fun Φ' s' C' sx=>⟨rfl,Φ',by rw [hfm2] at C'; exact C'.sub (tg1 x hx).sub,sx⟩
   refine codeAny_mono (start_in loop (g₅.self A (ok.hd hpos) _ _ _ hst₅ loop)) fun r s' hr=>?_
   obtain ⟨rfl,Φ',C',sx⟩:=hr
   exact wpAny_pure ⟨Φ',rfl,C',sx⟩
  case _ =>
   rw [hfm,List.nil_append] at C'
   exact h cenv a Φ' s' C'
set_option tactic.hygienic true in
theorem wx_assignC2 {x:Str} {xp spos:Pos} {elt t1 t2 i1 i2:Expr} {ifs:List Expr} {scope:Scope} {pos:Pos} {Q:Fl→Rho→R.σ→Prop} {ρc:Rho} {fz:Sk} {l:List α} {enc:α→D} {m:α→List β} {enc2:β→D} {g:α→β→List PyData} {ρ1:α→Rho} {ρ2:α→β→Rho}
  (src:WI n K R sc ρ S i1 fz fun ds' S'=>S' = S∧ds' = l.map enc) (c2:Comp2C n K R sc ρ S elt t1 t2 i1 i2 ifs scope ρc l enc m enc2 g ρ1 ρ2) (q:Q .next ((x,.own (l.flatMap fun x=>(m x).flatMap (g x))) :: ρ) S) (hx:isVar sc x = true:=by rfl) (hsc:scopeOk scope sc = true:=by rfl)
  (hsw:∀ env,env.scope = sc→sc.kind = .function→swapsWith (.ListComp elt [⟨t1,i1,[],0⟩,⟨t2,i2,ifs,0⟩] scope pos) (some (.Name x xp)) spos.line env = pure true) (hpos:0 < n:=by first | exact Nat.succ_pos _ | omega) :
  WX n K R sc ρ S (.Assign [.Name x xp] (.ListComp elt [⟨t1,i1,[],0⟩,⟨t2,i2,ifs,0⟩] scope pos) spos) Q:=fun A G env Φ s ok hm I=>by
 rw [exec_Assign_Name_used _ _ _ _ (hsw env I.scp I.kind)]
 refine wpAny_bind (wpAny_standAt (wpAny_bind ?_))
 show wpAny _ A (do let _ ← comprehension (.ListComp elt [⟨t1,i1,[],0⟩,⟨t2,i2,ifs,0⟩] scope pos) scope env _ (newList []) false (eval i1 env) (some (assign (.Name x xp) env))) _ _ s
 refine wpAny_bind (wpAny_mono (comp2 (E:=fun o9 o9=>False) ok hpos I (ScopeOk.of hsc) (src.e A G env Φ s ok I) c2 fun cenv a Φ' s' C=>comp_used hm I hx C q) (fun o9 s' h=>wpAny_pure (wpAny_pure h)) fun o9 o9 x=>x.elim)
end
section
variable (n:Nat) (K:Kx) (R:Rsc) (sc:Scope) (ρ:Rho) (S:R.σ)
noncomputable def VE (e:Expr) (d:D):Prop:=∀ Q:D→R.σ→Prop,Q d S→WE n K R sc ρ S e Q
noncomputable def VR (e:Expr) (d:D):Prop:=∀ Q:D→R.σ→Prop,Q d S→WR n K R sc ρ S e Q
noncomputable def VF (e:Expr) (ds:List PyData):Prop:=∀ Q:List PyData→R.σ→Prop,Q ds S→WF n K R sc ρ S e Q
noncomputable def VT (e:Expr) (b:Bool):Prop:=∀ Q:Bool→R.σ→Prop,Q b S→WT n K R sc ρ S e Q
noncomputable def VEs (es:List Expr) (ds:List D):Prop:=∀ Q:List D→R.σ→Prop,Q ds S→WEs n K R sc ρ S es Q
noncomputable def VRs (es:List Expr) (ds:List D):Prop:=∀ Q:List D→R.σ→Prop,Q ds S→WRs n K R sc ρ S es Q
noncomputable def VI (e:Expr) (k:Sk) (ds:List D):Prop:=∀ Q:List D→R.σ→Prop,Q ds S→WI n K R sc ρ S e k Q
end
section
variable {n:Nat} {K:Kx} {R:Rsc} {sc:Scope} {ρ:Rho} {S:R.σ}
theorem VE.r {e:Expr} {d:D} (h:VE n K R sc ρ S e d):VR n K R sc ρ S e d:=fun Q q=>(h Q q).weak
theorem VF.e {e:Expr} {ds:List PyData} (h:VF n K R sc ρ S e ds):VE n K R sc ρ S e (.lst ds):=fun Q q=>(h (fun ds S=>Q (.lst ds) S) q).frozen
theorem v_name {x:Str} {p:Pos} {d:D} (h:ρ.lookup x = some (.val d)) (hd:(x == ("__debug__":Str)) = false:=by rfl):VE n K R sc ρ S (.Name x p) d:=fun Q q=>we_name h q hd
theorem r_own {x:Str} {p:Pos} {ds:List PyData} (h:ρ.lookup x = some (.own ds)) (hd:(x == ("__debug__":Str)) = false:=by rfl):VR n K R sc ρ S (.Name x p) (.lst ds):=fun Q q=>wr_own h q hd
theorem v_int {i:Int} {k:Nat} {p:Pos}:VE n K R sc ρ S (.Constant (.int i) k p) (.int i):=fun Q q=>we_int q
theorem v_str {x:Str} {k:Nat} {p:Pos}:VE n K R sc ρ S (.Constant (.str x) k p) (.str x):=fun Q q=>we_str q
theorem v_none {k:Nat} {p:Pos}:VE n K R sc ρ S (.Constant .none k p) .none:=fun Q q=>we_none q
theorem v_bin {l r:Expr} {op:Operator} {p:Pos} {a b d:D} (h:VE n K R sc ρ S l a) (h':VE n K R sc ρ S r b) (hb:Bin n K op a b d):VE n K R sc ρ S (.BinOp l op r p) d:=fun Q q=>we_bin (h _ (h' _ ⟨_,hb,q⟩))
theorem v_neg {e:Expr} {p:Pos} {i:Int} (h:VE n K R sc ρ S e (.int i)):VE n K R sc ρ S (.UnaryOp .USub e p) (.int (-i)):=fun Q q=>we_neg (h _ ⟨i,rfl,q⟩)
theorem t_cmp {l r:Expr} {op:CmpOp} {p:Pos} {a b:D} {c:Bool} (h:VR n K R sc ρ S l a) (h':VR n K R sc ρ S r b) (hc:Cmp n K op a b c) (hm:behindInMarks op r = false:=by with_unfolding_all rfl):VT n K R sc ρ S (.Compare l [op] [r] p) c:=fun Q q=>wt_cmp (h _ (h' _ ⟨_,hc,q⟩)) hm
theorem t_or {e:Expr} {rest:List Expr} {p:Pos} {b c:Bool} (h:VT n K R sc ρ S e b) (h':b = false→VT n K R sc ρ S (.BoolOp .Or rest p) c):VT n K R sc ρ S (.BoolOp .Or (e :: rest) p) (b || c):=fun Q q=>wt_or (h _ (by cases b; exact h' rfl Q q; exact q))
theorem t_or0 {p:Pos}:VT n K R sc ρ S (.BoolOp .Or [] p) false:=fun Q q=>wt_or_nil q
theorem v_ifexp {t a b:Expr} {p:Pos} {c:Bool} {d:D} (h:VT n K R sc ρ S t c) (ha:c = true→VE n K R sc ρ S a d) (hb:c = false→VE n K R sc ρ S b d):VE n K R sc ρ S (.IfExp t a b p) d:=fun Q q=>we_ifexp (h _ (by cases c; exact hb rfl Q q; exact ha rfl Q q))
theorem es_nil:VEs n K R sc ρ S [] []:=fun Q q=>wes_nil q
theorem rs_nil:VRs n K R sc ρ S [] []:=fun Q q=>wrs_nil q
theorem es_cons {e:Expr} {rest:List Expr} {d:D} {ds:List D} (h:VE n K R sc ρ S e d) (h':VEs n K R sc ρ S rest ds) (he:∀ env,starEach (e :: rest) env = (false,eval e env) :: starEach rest env:=by intro o9; rfl):VEs n K R sc ρ S (e :: rest) (d :: ds):=fun Q q=>wes_cons (h _ (h' _ q)) he
theorem rs_cons {e:Expr} {rest:List Expr} {d:D} {ds:List D} (h:VR n K R sc ρ S e d) (h':VRs n K R sc ρ S rest ds) (he:∀ env,starEach (e :: rest) env = (false,eval e env) :: starEach rest env:=by intro o9; rfl):VRs n K R sc ρ S (e :: rest) (d :: ds):=fun Q q=>wrs_cons (h _ (h' _ q)) he
theorem v_tuple {es:List Expr} {k:Nat} {p:Pos} {l:List PyData} (h:VEs n K R sc ρ S es (l.map D.py)) (hl:l.length≤sizeLine):VE n K R sc ρ S (.Tuple es k p) (.tup l):=fun Q q=>we_tuple (h _ ⟨l,rfl,hl,q⟩)
theorem f_list {es:List Expr} {p:Pos} {l:List PyData} (h:VEs n K R sc ρ S es (l.map D.py)) (hl:l.length≤sizeLine):VF n K R sc ρ S (.List es p) l:=fun Q q=>wf_list (h _ ⟨l,rfl,hl,q⟩)
theorem v_call {f:Str} {fv:Value} {fp p:Pos} {e:Expr} {rest:List Expr} {ds:List D} {d:D} (hf:K.gl f = some fv) (h:VRs n K R sc ρ S (e :: rest) ds) (hc:CallV n K fv ds d) (hpl:Plain fv) (hk:sc.names.lookup f = some .globalImplicit:=by rfl)
  (hs:(e :: rest).any isStarred = false:=by rfl) (hd:(f == ("__debug__":Str)) = false:=by rfl):VE n K R sc ρ S (.Call (.Name f fp) (e :: rest) [] p) d:=fun Q q=>we_call hf (h _ ⟨d,hc,q⟩) hpl hk hs hd
theorem f_call {f:Str} {fv:Value} {fp p:Pos} {e:Expr} {rest:List Expr} {ds:List D} {l:List PyData} (hf:K.gl f = some fv) (h:VRs n K R sc ρ S (e :: rest) ds) (hc:CallF n K fv ds l) (hpl:Plain fv) (hk:sc.names.lookup f = some .globalImplicit:=by rfl)
  (hs:(e :: rest).any isStarred = false:=by rfl) (hd:(f == ("__debug__":Str)) = false:=by rfl):VF n K R sc ρ S (.Call (.Name f fp) (e :: rest) [] p) l:=fun Q q=>wf_call hf (h _ ⟨l,hc,q⟩) hpl hk hs hd
theorem v_at {l i:Expr} {p:Pos} {ds:List PyData} {k:Nat} {x:PyData} (h:VR n K R sc ρ S l (.lst ds)) (hi:VE n K R sc ρ S i (.int k)) (hx:ds[k]? = some x) (hl:ds.length < 2 ^ 62)
  (hs:∀ o v,subscripted i false o v = operate [o,v] (getItem o v):=by intro o9 o9; with_unfolding_all rfl):VE n K R sc ρ S (.Subscript l i p) (.py x):=fun Q q=>we_index (h _ (hi _ ⟨ds,k,x,.inl rfl,rfl,by unfold idx; rw [if_pos (Int.natCast_nonneg k),Int.toNat_natCast]; exact hx,hl,q⟩)) hs
theorem v_atT {l i:Expr} {p:Pos} {ds:List PyData} {k:Nat} {x:PyData} (h:VE n K R sc ρ S l (.tup ds)) (hi:VE n K R sc ρ S i (.int k)) (hx:ds[k]? = some x) (hl:ds.length < 2 ^ 62)
  (hs:∀ o v,subscripted i false o v = operate [o,v] (getItem o v):=by intro o9 o9; with_unfolding_all rfl):VE n K R sc ρ S (.Subscript l i p) (.py x):=fun Q q=>we_index (h.r _ (hi _ ⟨ds,k,x,.inr rfl,rfl,by unfold idx; rw [if_pos (Int.natCast_nonneg k),Int.toNat_natCast]; exact hx,hl,q⟩)) hs
theorem v_idx {l i:Expr} {p:Pos} {ds:List PyData} {k:Int} {x:PyData} (h:VR n K R sc ρ S l (.lst ds)) (hi:VE n K R sc ρ S i (.int k)) (hx:idx ds k = some x) (hl:ds.length < 2 ^ 62)
  (hs:∀ o v,subscripted i false o v = operate [o,v] (getItem o v):=by intro o9 o9; with_unfolding_all rfl):VE n K R sc ρ S (.Subscript l i p) (.py x):=fun Q q=>we_index (h _ (hi _ ⟨ds,k,x,.inl rfl,rfl,hx,hl,q⟩)) hs
theorem VT.of {e:Expr} {b c:Bool} (h:VT n K R sc ρ S e b) (hb:b = c):VT n K R sc ρ S e c:=hb ▸ h
theorem f_add {l r:Expr} {p:Pos} {ds es:List PyData} (h:VR n K R sc ρ S l (.lst ds)) (h':VR n K R sc ρ S r (.lst es)) (hl:ds.length + es.length≤sizeLine):VF n K R sc ρ S (.BinOp l .Add r p) (ds ++ es):=fun Q q=>wf_add (h _ (h' _ ⟨ds,es,rfl,rfl,hl,q⟩))
theorem i_range {f:Str} {e:Expr} {fp p:Pos} {k:Sk} {b:Nat} (hf:K.gl f = some (.type "range")) (h:VE n K R sc ρ S e (.int b)) (hb:b≤100000) (hk:sc.names.lookup f = some .globalImplicit:=by rfl) (he:isStarred e = false:=by rfl) (hd:(f == ("__debug__":Str)) = false:=by rfl) :
  VI n K R sc ρ S (.Call (.Name f fp) [e] [] p) k ((List.range b).map fun i:Nat=>.int i):=fun Q q=>wi_range1 hf (h _ ⟨b,rfl,hb,q⟩) hk he hd
theorem i_lstM {α:Type} {e:Expr} {k:Sk} {l:List α} {f:α→PyData} (h:VE n K R sc ρ S e (.lst (l.map f))):VI n K R sc ρ S e k (l.map fun x=>.py (f x)):=fun Q q=>wi_lstF (h _ ⟨_,rfl,by rw [List.map_map]; exact q⟩)
section
variable {α:Type} {elt target iter c:Expr} {scope:Scope} {p:Pos} {ρc:Rho} {l:List α} {enc:α→D} {f:α→PyData} {ρ':α→Rho}
theorem flat_one (l:List α) (f:α→PyData):(l.flatMap fun x=>[f x]) = l.map f:=by
 induction l with
 | nil=>rfl
 | cons x l ih=>rw [List.flatMap_cons,ih]; rfl
theorem flat_if (l:List α) (q:α→Bool) (f:α→PyData):(l.flatMap fun x=>if q x = true then [f x] else []) = (l.filter q).map f:=by
 induction l with
 | nil=>rfl
 | cons x l ih =>
  rw [List.flatMap_cons,ih,List.filter_cons]
  cases q x <;> rfl
structure Cm (n:Nat) (K:Kx) (R:Rsc) (sc:Scope) (ρ:Rho) (S:R.σ) (elt target iter:Expr) (scope:Scope) (ρc:Rho) (l:List α) (enc:α→D) (f:α→PyData) (ρ':α→Rho):Prop where
 src:VI n K R sc ρ S iter .frz (l.map enc)
 rho:RhoIn scope sc ρ ρc
 inj:∀ x y,enc x = enc y→x = y
 tg:∀ x∈l,Tgt n K R (relabelS scope sc) (mineOf scope) target (enc x) ρc (ρ' x)
 sz:l.length≤sizeLine
theorem f_map (m:Cm n K R sc ρ S elt target iter scope ρc l enc f ρ') (em:∀ x∈l,VE n K R (relabelS scope sc) (ρ' x) S elt (.py (f x))) (hsc:scopeOk scope sc = true:=by rfl) (hs:∀ env x,foldedSetIterable iter env x = pure x:=by intro o9 o9; rfl) (hpos:0 < n:=by first | exact Nat.succ_pos _ | omega) :
  VF n K R sc ρ S (.ListComp elt [⟨target,iter,[],0⟩] scope p) (l.map f):=fun Q q=>wf_comp1 ρc .frz l enc (fun x=>[f x]) ρ' (m.src _ ⟨rfl,rfl⟩) m.rho (fun x o9 y o9 e=>by rw [m.inj x y e]) m.tg (fun x hx=>em x hx _ ⟨rfl,_,rfl,rfl⟩) (by rw [flat_one,List.length_map]; exact m.sz) (by rw [flat_one]; exact q) hsc hs hpos
theorem f_filter (m:Cm n K R sc ρ S elt target iter scope ρc l enc f ρ') (q:α→Bool) (tt:∀ x∈l,VT n K R (relabelS scope sc) (ρ' x) S c (q x)) (em:∀ x∈l,q x = true→VE n K R (relabelS scope sc) (ρ' x) S elt (.py (f x))) (hsc:scopeOk scope sc = true:=by rfl) (hs:∀ env x,foldedSetIterable iter env x = pure x:=by intro o9 o9; rfl) (hpos:0 < n:=by first | exact Nat.succ_pos _ | omega) :
  VF n K R sc ρ S (.ListComp elt [⟨target,iter,[c],0⟩] scope p) ((l.filter q).map f):=fun Q q'=>by
 refine wf_comp1 ρc .frz l enc (fun x=>if q x = true then [f x] else []) ρ' (m.src _ ⟨rfl,rfl⟩) m.rho (fun x o9 y o9 e=>by rw [m.inj x y e]) m.tg (fun x hx=>tt x hx _ ⟨rfl,?_⟩) (by rw [flat_if,List.length_map]; exact Nat.le_trans (List.length_filter_le _ _) m.sz) (by rw [flat_if]; exact q') hsc hs hpos
 cases h:q x with
 | true=>exact em x hx h _ ⟨rfl,_,rfl,rfl⟩
 | false=>exact rfl
theorem s_map {x:Str} {xp sp:Pos} {rest:List Stmt} {Q:Fl→Rho→R.σ→Prop} (m:Cm n K R sc ρ S elt target iter scope ρc l enc f ρ') (em:∀ x∈l,VE n K R (relabelS scope sc) (ρ' x) S elt (.py (f x))) (k:WS n K R sc ((x,.own (l.map f)) :: ρ) S rest Q)
  (hx:isVar sc x = true:=by rfl) (hsc:scopeOk scope sc = true:=by rfl) (hsw:∀ env,env.scope = sc→sc.kind = .function→swapsWith (.ListComp elt [⟨target,iter,[],0⟩] scope p) (some (.Name x xp)) sp.line env = pure true)
  (hs:∀ env x,foldedSetIterable iter env x = pure x:=by intro o9 o9; rfl) (hpos:0 < n:=by first | exact Nat.succ_pos _ | omega):WS n K R sc ρ S (.Assign [.Name x xp] (.ListComp elt [⟨target,iter,[],0⟩] scope p) sp :: rest) Q :=
 ws_cons (wx_assignCE (fz:=.frz) ρc l enc (fun x=>[f x]) ρ' (WI.e (m.src _ ⟨rfl,rfl⟩)) m.rho (fun x o9 y o9 e=>by rw [m.inj x y e]) m.tg (fun x hx=>em x hx _ ⟨rfl,_,rfl,rfl⟩) (by rw [flat_one,List.length_map]; exact m.sz) (by rw [flat_one]; exact k) hx hsc hsw hs hpos)
end
theorem s_assign {x:Str} {p pos:Pos} {e:Expr} {d:D} {rest:List Stmt} {Q:Fl→Rho→R.σ→Prop} (v:VE n K R sc ρ S e d) (k:WS n K R sc ((x,.val d) :: ρ) S rest Q) (hx:isVar sc x = true:=by rfl) (hs:∀ env,swapsWith e (some (.Name x p)) pos.line env = pure false:=by intro o9; rfl) :
  WS n K R sc ρ S (.Assign [.Name x p] e pos :: rest) Q:=ws_cons (wx_assign (v _ k) hx hs)
theorem s_assignF {x:Str} {p pos:Pos} {e:Expr} {ds:List PyData} {rest:List Stmt} {Q:Fl→Rho→R.σ→Prop} (v:VF n K R sc ρ S e ds) (k:WS n K R sc ((x,.own ds) :: ρ) S rest Q) (hx:isVar sc x = true:=by rfl) (hs:∀ env,env.scope = sc→swapsWith e (some (.Name x p)) pos.line env = pure false:=by intro o9 o9; rfl) :
  WS n K R sc ρ S (.Assign [.Name x p] e pos :: rest) Q:=ws_cons (wx_assignF (v _ k) hx hs)
theorem s_assignC {x:Str} {p pos:Pos} {e:Expr} {ds:List PyData} {rest:List Stmt} {Q:Fl→Rho→R.σ→Prop} (v:VF n K R sc ρ S e ds) (k:WS n K R sc ((x,.own ds) :: ρ) S rest Q) (hx:isVar sc x = true:=by rfl) (hs:∀ env,env.scope = sc→swapsWith e (some (.Name x p)) pos.line env = pure false) :
  WS n K R sc ρ S (.Assign [.Name x p] e pos :: rest) Q:=ws_cons (wx_assignF (v _ k) hx hs)
theorem s_skip {t:Expr} {body:List Stmt} {pos:Pos} {rest:List Stmt} {Q:Fl→Rho→R.σ→Prop} (v:VT n K R sc ρ S t false) (k:WS n K R sc ρ S rest Q):WS n K R sc ρ S (.If t body [] pos :: rest) Q:=ws_cons (wx_if (v _ (ws_nil k)))
theorem s_if {t:Expr} {body orelse:List Stmt} {pos:Pos} {b:Bool} {rest:List Stmt} {Q:Fl→Rho→R.σ→Prop} (v:VT n K R sc ρ S t b) (k:b = true→WS n K R sc ρ S body (Seq n K R sc rest Q)) (k':b = false→WS n K R sc ρ S orelse (Seq n K R sc rest Q)):WS n K R sc ρ S (.If t body orelse pos :: rest) Q :=
 ws_cons (wx_if (v _ (by cases b; exact k' rfl; exact k rfl)))
theorem s_told {t:Expr} {body:List Stmt} {pos:Pos} {rest:List Stmt} {Q:Fl→Rho→R.σ→Prop} (h:WT n K R sc ρ S t fun b S₁=>b = false∧WS n K R sc ρ S₁ rest Q):WS n K R sc ρ S (.If t body [] pos :: rest) Q :=
 ws_cons (wx_if (h.mono fun b S₁ e=>by obtain ⟨e,k⟩:=e; subst e; exact ws_nil k))
theorem bin_succ {a:Nat}:Bin n K .Add (.int a) (.int 1) (.int ((a + 1:Nat):Int)):=bin_add
end
section
variable {α:Type} {bt:Nat→Nat→Bool}
end
section
variable {n:Nat} {K:Kx}
end
section
variable {prog:Program} {w:World} {A:Around} {E:Value→Shared→Prop} {s:Shared}
end
section
variable {prog:Program} {w:World} {A:Around} {R:Result→Shared→Prop} {I S:Addr} {fp wr:List Addr} {n:Nat} {P:Nat→Value→Prop} {St:Nat→Heap→Prop} {bt:Nat→Nat→Bool} {Z:Heap→Prop}
end
section
variable {n:Nat} {K:Kx}
end
section
variable {n:Nat} {K:Kx}
end
section
variable {n:Nat} {K:Kx} {R:Rsc} {sc:Scope} {ρ:Rho} {S:R.σ}
theorem t_isnone_own {x:Str} {p:Pos} {k:Nat} {cp pos:Pos} {ds:List PyData} (hx:ρ.lookup x = some (.own ds)) (hd:(x == ("__debug__":Str)) = false:=by rfl):VT n K R sc ρ S (.Compare (.Name x p) [.Is] [.Constant .none k cp] pos) false:=fun Q q A G env Φ s ok I =>
 wpAny_isTrue_Compare1 (wpAny_mono (wr_own (Q:=fun d S'=>d = .lst ds∧S' = S) hx ⟨rfl,rfl⟩ hd A G env Φ s ok I) (fun v s₁ hp0=>by
  obtain ⟨Φ₁,S₁,d,y,r,e1,e2⟩:=hp0
  subst e1 e2
  obtain ⟨a,rfl,_⟩:=r.lst y.inv.froz
  exact wpAny_mono (we_none (n:=n) (Q:=fun d S'=>d = .none∧S' = S₁) ⟨rfl,rfl⟩ A G env Φ₁ s₁ ok y.inv) (fun u s₂ hp0=>by
   obtain ⟨Φ₂,S₂,d₂,y₂,r₂,e₁,e₂⟩:=hp0
   subst e₁ e₂
   (first | subst r₂ | (cases (show _ = _ from r₂)))
   exact is_none (wpAny_truthy_bool ⟨Φ₂,S₂,y.trans y₂,q⟩)) fun o9 o9 x=>x.elim) fun o9 o9 x=>x.elim)
theorem t_isnone {e:Expr} {k:Nat} {cp pos:Pos} {d:D} (v:VE n K R sc ρ S e d):VT n K R sc ρ S (.Compare e [.Is] [.Constant .none k cp] pos) d.isNone:=fun Q q=>wt_isnone (v _ q)
theorem t_and {e:Expr} {rest:List Expr} {p:Pos} {b c:Bool} (h:VT n K R sc ρ S e b) (h':b = true→VT n K R sc ρ S (.BoolOp .And rest p) c):VT n K R sc ρ S (.BoolOp .And (e :: rest) p) (b && c):=fun Q q=>wt_and (h _ (by cases b; exact q; exact h' rfl Q q))
theorem t_and0 {p:Pos}:VT n K R sc ρ S (.BoolOp .And [] p) true:=fun Q q=>wt_and_nil q
end
section
variable {n:Nat} {K:Kx} {R:Rsc} {G:Ent} {sc:Scope} {env:Env} {ρ:Rho} {S:R.σ} {Φ:Fz} {s:Shared}
end
section
variable {n:Nat} {K:Kx} {R:Rsc} {sc:Scope} {ρ:Rho} {S:R.σ}
end
section
open PySem
abbrev prog0:Program:=PySem.Challenge.pw_dv0016_05
noncomputable def lawL:List (Addr×Nat):=[(146,8),(151,9),(156,10)]
noncomputable def globLawU:List (Str×Value):=[("_law_orders",.ref 146),("_law_least",.ref 151),("law",.ref 156)]
noncomputable def globLawB:List (Str×Value):=[("range",.type "range"),("sum",.builtin "sum"),("list",.type "list"),("sorted",.builtin "sorted")]
end
noncomputable def globU:List (Str×Value):=([("_NODE_OUT",.int (-1) 197),("_NODE_DONE",.int (-2) 200),("_NodeInfo",.ref 40),("CycleError",.ref 55),("TopologicalSorter",.ref 137)]:List (Str×Value)) ++ globLawU
noncomputable def globB:List (Str×Value):=([("ValueError",.type "ValueError"),("StopIteration",.type "StopIteration"),("len",.builtin "len"),("tuple",.type "tuple"),("bool",.type "bool"),("set",.type "set"),("iter",.builtin "iter"),("repr",.builtin "repr")]:List (Str×Value)) ++ globLawB
noncomputable def globL:List (Str×Value):=globU ++ globB
noncomputable def noS:Stmt:=.Pass ⟨0,0,0,0⟩
noncomputable def clsBody:Stmt→List Stmt
 | .ClassDef _ _ _ b _ _ _ _ _ _ _=>b
 | _=>[]
noncomputable def fnBody:Stmt→List Stmt
 | .FunctionDef _ _ b _ _ _ _ _ _ _=>b
 | _=>[]
noncomputable def fnScope:Stmt→Scope
 | .FunctionDef _ _ _ _ _ _ s _ _ _=>s
 | _=>{ kind:=.function,names:=[],isGenerator:=false,isCoroutine:=false }
noncomputable def fnPar:Stmt→Arguments
 | .FunctionDef _ a _ _ _ _ _ _ _ _=>a
 | _=>{ posonlyargs:=[],args:=[],vararg:=none,kwonlyargs:=[],kw_defaults:=[],kwarg:=none,defaults:=[] }
noncomputable def methL:List (Addr×Nat×Nat):=[(36,4,1),(73,6,0),(80,6,1),(87,6,2),(92,6,3),(99,6,4),(106,6,5),(120,6,7),(127,6,8)]
noncomputable def stAt (a:Addr):Stmt:=match methL.lookup a with
 | some (i,j)=>(clsBody (prog0.main.body.getD i noS)).getD j noS
 | none=>prog0.main.body.getD ((lawL.lookup a).getD 0) noS
noncomputable def bodyAt (a:Addr):List Stmt:=fnBody (stAt a)
noncomputable def scAt (a:Addr):Scope:=fnScope (stAt a)
noncomputable def parAt (a:Addr):Arguments:=fnPar (stAt a)
noncomputable def dfAt (a:Addr):Value:=if a = 73 then .ref 66 else .none
noncomputable def fnL:List Addr:=methL.map (·.1) ++ lawL.map (·.1)
noncomputable def funcOf:Data→Option FuncData
 | .func fd=>some fd
 | _=>none
noncomputable def fieldsOf:Data→Option (Array Value)
 | .fields vs=>some vs
 | _=>none
noncomputable def seqOf:Data→Option (Array Value)
 | .seq vs _=>some vs
 | _=>none
noncomputable def dictOf:Data→Option (Array DictEntry)
 | .dict es _=>some es
 | _=>none
noncomputable def clsOf:Data→Option ClassData
 | .cls cd=>some cd
 | _=>none
noncomputable def refOf:Value→Option Addr
 | .ref c=>some c
 | _=>none
noncomputable def strOf:Value→Option Str
 | .str x _=>some x
 | _=>none
set_option tactic.hygienic true in
theorem of_func {d:Data} {x:FuncData} (h:funcOf d = some x):d = .func x:=by
 cases d
 case func y=>exact congrArg Data.func (Option.some.inj h)
 all_goals exact dNS h
set_option tactic.hygienic true in
theorem of_fields {d:Data} {x:Array Value} (h:fieldsOf d = some x):d = .fields x:=by
 cases d
 case fields y=>exact congrArg Data.fields (Option.some.inj h)
 all_goals exact dNS h
set_option tactic.hygienic true in
theorem of_seq {d:Data} {x:Array Value} (h:seqOf d = some x):∃ n,d = .seq x n:=by
 cases d
 case seq y n=>exact ⟨n,congrArg (Data.seq · n) (Option.some.inj h)⟩
 all_goals exact dNS h
set_option tactic.hygienic true in
theorem of_dict {d:Data} {x:Array DictEntry} (h:dictOf d = some x):∃ n,d = .dict x n:=by
 cases d
 case dict y n=>exact ⟨n,congrArg (Data.dict · n) (Option.some.inj h)⟩
 all_goals exact dNS h
set_option tactic.hygienic true in
theorem of_cls {d:Data} {x:ClassData} (h:clsOf d = some x):d = .cls x:=by
 cases d
 case cls y=>exact congrArg Data.cls (Option.some.inj h)
 all_goals exact dNS h
set_option tactic.hygienic true in
theorem of_ref {d:Value} {x:Addr} (h:refOf d = some x):d = .ref x:=by
 cases d
 case ref y=>exact congrArg Value.ref (Option.some.inj h)
 all_goals exact dNS h
set_option tactic.hygienic true in
theorem of_str {d:Value} {x:Str} (h:strOf d = some x):∃ t,d = .str x t:=by
 cases d
 case str y t=>exact ⟨t,congrArg (Value.str · t) (Option.some.inj h)⟩
 all_goals exact dNS h
noncomputable def fnAt (F:Frag) (a:Addr):Option FuncData:=(F.lookup a).bind fun o=>funcOf o.data
noncomputable def codeAt (F:Frag) (v:Value):Option Str:=(refOf v).bind fun c=>(F.lookup c).bind fun o=>(fieldsOf o.data).bind fun vs=>vs[1]?.bind strOf
noncomputable def codeOk (F:Frag) (fd:FuncData):Bool:=codeAt F fd.code == some fd.qualname
abbrev FnS:=FuncBody×Scope×Arguments×List (Str×Addr)×Addr×Addr×Value×Value×Bool
noncomputable def fnSeen (F:Frag) (a:Addr):Option FnS:=(fnAt F a).map fun fd=>(fd.body,fd.scope,fd.params,fd.closure,fd.globals,fd.builtins,fd.defaults,fd.kwdefaults,codeOk F fd)
noncomputable def fnGood (a:Addr):Option FnS:=some (.stmts (bodyAt a),scAt a,parAt a,[],mainGlobals,builtinsNs,dfAt a,.none,true)
noncomputable def clsB (F:Frag) (C:Addr):Bool:=findIn F (.ref C) "__getattribute__" == some (some (.builtin "object.__getattribute__")) && findIn F (.ref C) "__setattr__" == some (some (.builtin "object.__setattr__")) && findIn F (.ref C) "__getattr__" == some none && plainOver F C
noncomputable def slotB (F:Frag) (C:Addr) (name:Str) (p:Addr) (i:Nat):Bool:=findIn F (.ref C) name == some (some (.ref p)) && specialIn F (.ref p) "__get__" == some (some (.builtin "member_descriptor.__get__")) && takesIn F (.ref p) == some true && slotIn F p C == some i && typeIn F (.ref p) == some (.type "member_descriptor")
noncomputable def makeB (F:Frag) (C fI:Addr):Bool:=makesIn F C && findIn F (.ref C) "__init__" == some (some (.ref fI)) && typeIn F (.ref fI) == some (.type "function") && keepIn F (.ref C)
noncomputable def methB (F:Frag) (C:Addr) (name:Str) (fa:Addr):Bool:=findIn F (.ref C) name == some (some (.ref fa)) && typeIn F (.ref fa) == some (.type "function")
noncomputable def attrB (F:Frag) (C:Addr) (name:Str):Bool:=findIn F (.ref C) name == some none && takerIn F C name == some none
noncomputable def methN:List (Str×Addr):=[("_get_nodeinfo",80),("add",87),("prepare",92),("get_ready",99),("is_active",106),("done",120),("_find_cycle",127)]
noncomputable def bindL:List Addr:=[120,87]
noncomputable def bindB (F:Frag) (a:Addr):Bool:=specialIn F (.ref a) "__get__" == some (some (.builtin "function.__get__")) && takesIn F (.ref a) == some false
noncomputable def attrN:List Str:=["_node2info", "_ready_nodes", "_npassedout", "_nfinished"]
noncomputable def strEnt (e:DictEntry):Option (Str×Value):=(strOf e.key).map fun x=>(x,e.val)
noncomputable def dk (o:Option Obj):List (Str×Value):=((o.bind fun o=>dictOf o.data).elim [] fun es=>es.toList.filterMap strEnt)
noncomputable def tup66 (F:Frag):Bool:=((F.lookup 66).map fun o=>(o.cls,seqOf o.data)) == some (.type "tuple",some #[.none])
noncomputable def quietNs (F:Frag) (N:Addr):Bool:=((F.lookup N).bind fun o=>dictOf o.data).elim false fun es=>es.toList.all (fun e=>(strOf e.key).isSome) && quietNames.all fun n=>(nsFind es n).isNone
noncomputable def ownCd (F:Frag) (C:Addr):Option (Value×ClassData×Array (Option Value)):=(F.lookup C).bind fun o=>(clsOf o.data).map fun cd=>(o.cls,cd,o.slots)
noncomputable def ownIn (F:Frag) (C:Addr) (newId:String) (bm:List Value):Bool:=(ownCd F C).elim false fun x=>x.1 == .type "type" && x.2.1.mro == .ref C :: bm && !x.2.1.hasDel && x.2.2.size == 6 && x.2.2[4]? == some (some (.builtin newId)) && quietNs F x.2.1.ns
noncomputable def mroVE:List Value:=[.type "ValueError",.type "Exception",.type "BaseException",.type "object"]
noncomputable def exc55 (F:Frag):Bool:=instIn F (.ref 55) (.type "tuple") == some false && (ownCd F 55).isSome && subIn F (.ref 55) (.type "BaseException") == some true && (subIn F (.type "ValueError") (.ref 55) == some false && subIn F (.ref 55) (.ref 55) == some true && ownIn F 55 "ValueError.__new__" mroVE)
noncomputable def factsB (F:Frag):Bool:=clsB F 40 && clsB F 137 && slotB F 40 "node" 41 0 && slotB F 40 "npredecessors" 42 1 && slotB F 40 "successors" 43 2 && makeB F 40 36 && makeB F 137 73 && methN.all (fun x=>methB F 137 x.1 x.2) &&
 bindL.all (bindB F) && attrN.all (attrB F 137) && (clsIn F 137).any (·.hasDict) && tup66 F && exc55 F &&
 globU.all (fun x=>(dk (F.lookup mainGlobals)).lookup x.1 == some x.2) && globB.all (fun x=>(dk (F.lookup mainGlobals)).lookup x.1 == none)
noncomputable def fragOf (h:Heap):Frag:=(List.range 400).filterMap fun a=>(h.get? a).map fun o=>(a,o)
noncomputable def seenF (F:Frag):Bool×List (Option FnS):=(factsB F,fnL.map (fnSeen F))
noncomputable def goodF:Bool×List (Option FnS):=(true,fnL.map fnGood)
theorem frag_lookup {h:Heap} {a:Addr} {o:Obj} {l:List Addr}:(l.filterMap fun a=>(h.get? a).map fun o=>(a,o)).lookup a = some o→h.get? a = some o:=by
 induction l with
 | nil =>
  rintro e
  cases e
 | cons b l ih =>
  rintro e
  rw [List.filterMap_cons] at e
  cases q:h.get? b with
  | none=>rw [q] at e; exact ih e
  | some o' =>
   rw [q] at e
   simp only [Option.map_some,List.lookup_cons] at e
   by_cases z:a = b
   ·subst z; simp at e; subst e; exact q
   ·have:(a == b) = false:=by simpa using z
    rw [this] at e; exact ih e
noncomputable def hook0:Hook where
 α:=Bool×List (Option FnS)
 obs s:=seenF (fragOf s.heap)
 val _:=goodF
 says _ h:=∃ F:Frag,F.In h∧seenF F = goodF
 of _ s e:=⟨fragOf s.heap,fun o9 o9 q=>frag_lookup q,e⟩
 keeps _ _ _:=fun hp0 k=>by obtain ⟨F,h1,h2⟩:=hp0; exact ⟨F,h1.keeps k,h2⟩
structure Here (K:Kx):Prop where
 seen:seenF K.kf = goodF
 gl:∀ x v,globL.lookup x = some v→K.gl x = some v
theorem Here.fn {K:Kx} (H:Here K) {a:Addr} (ha:a∈fnL):∃ fd,IsFn K a fd (bodyAt a)∧fd.scope = scAt a∧fd.params = parAt a∧fd.defaults = dfAt a∧fd.kwdefaults = .none:=by
 have h:=(Prod.mk.inj H.seen).2
 have h1:fnSeen K.kf a = fnGood a:=List.map_inj_left.mp h a ha
 unfold fnSeen fnGood at h1
 obtain ⟨fd,e1,e2⟩:=Option.map_eq_some_iff.mp h1
 simp only [Prod.mk.injEq] at e2
 obtain ⟨q1,q2,q3,q4,q5,q6,q7,q8,q9⟩:=e2
 have X:=K.kfB
 have hsc:fd.scope.isCoroutine = false∧fd.scope.isGenerator = false∧fd.scope.kind = .function:=by
  rw [q2]
  have all:fnL.all (fun a=>!(scAt a).isCoroutine && !(scAt a).isGenerator && (scAt a).kind == .function) = true:=by kernel_rfl
  have:=List.all_eq_true.mp all a ha
  simp only [Bool.and_eq_true,Bool.not_eq_true',beq_iff_eq] at this
  exact ⟨this.1.1,this.1.2,this.2⟩
 obtain ⟨o,ho,h2⟩:=Option.bind_eq_some_iff.mp e1
 obtain ⟨c,hc,h3⟩:=Option.bind_eq_some_iff.mp (eq_of_beq q9)
 obtain ⟨o',ho',h4⟩:=Option.bind_eq_some_iff.mp h3
 obtain ⟨vs,hv,h5⟩:=Option.bind_eq_some_iff.mp h4
 obtain ⟨v,hv1,h6⟩:=Option.bind_eq_some_iff.mp h5
 obtain ⟨t,rfl⟩:=of_str h6
 exact ⟨fd,⟨⟨o,X _ _ ho,of_func h2⟩,q1,⟨c,o',vs,t,of_ref hc,X _ _ ho',of_fields hv,hv1⟩,q4,q5,q6,hsc.1,hsc.2.1,hsc.2.2⟩,q2,q3,q7,q8⟩
theorem Here.fo {K:Kx} (H:Here K) {a:Addr} (ha:a∈fnL):FnO K a:=by
 obtain ⟨fd,fn,_⟩:=H.fn ha
 obtain ⟨o,h1,h2⟩:=fn.obj
 exact ⟨o,fd,h1,h2⟩
noncomputable def lite (q:Str) (p:Arguments) (df:Value):FuncData:={ name:="",qualname:=q,params:=p,body:=.stmts [],scope:={ kind:=.function,names:=[],isGenerator:=false,isCoroutine:=false },globals:=3,closure:=[],defaults:=df,kwdefaults:=.none }
theorem bind_lite {fd:FuncData} {args:Args} (h:fd.kwdefaults = .none):bindArgs fd args = bindArgs (lite fd.qualname fd.params fd.defaults) args:=by
 obtain ⟨x1,x2,x3,x4,x5,x6,x7,x8,x9,x10,x11,x12,x13,x14,x15⟩:=fd
 dsimp only at h; subst h; rfl
section
variable {n:Nat} {K:Kx} {R:Rsc} {S:R.σ} (H:Here K)
include H
theorem wcall_fn {a:Addr} {ps:List Str} {ds:List D} {Q:Ret→R.σ→Prop} (ha:a∈fnL) (hdf:dfAt a = .none) (hl:ps.length = ds.length)
  (hbind:∀ (q:Str) (vs:List Value),vs.length = ps.length→bindArgs (lite q (parAt a) .none) ⟨vs,[]⟩ = pure (ps.zip vs)) (hd:defOk (scAt a) ps = true) (h:WS n K R (scAt a) (vals (ps.zip ds)) S (bodyAt a) (retOf Q)):WCall (n + 1) K R S (.ref a) ds Q:=by
 obtain ⟨fd,fn,e1,e2,e3,e4⟩:=H.fn ha
 refine wcall_of (ps:=ps) fn hl (fun vs hv=>?_) (by rw [e1]; exact hd) (by rw [e1]; exact h)
 rw [bind_lite e4,e2,e3,hdf]; exact hbind _ vs hv
theorem wcall_sfn {a:Addr} {ps:List Str} {va:Str} {ds:List D} {l:List PyData} {Q:Ret→R.σ→Prop} (ha:a∈fnL) (hdf:dfAt a = .none) (hl:ps.length = ds.length) (hsz:l.length≤sizeLine)
  (hbind:∀ (q:Str) (vs rest:List Value),vs.length = ps.length→bindArgs (lite q (parAt a) .none) ⟨vs ++ rest,[]⟩ = (do let t ← newTuple rest; pure (ps.zip vs ++ [(va,t)]))) (hd:defOk (scAt a) ((ps.zip ds ++ [(va,D.tup l)]).map (·.1)) = true)
  (h:WS n K R (scAt a) (vals (ps.zip ds ++ [(va,D.tup l)])) S (bodyAt a) (retOf Q)):WCall (n + 1) K R S (.ref a) (ds ++ l.map D.py) Q:=by
 obtain ⟨fd,fn,e1,e2,e3,e4⟩:=H.fn ha
 refine wcall_gen fn (binds_star (ps:=ps) (va:=va) hl hsz fun vs rest hv=>?_) (by rw [e1]; exact hd) (by rw [e1]; exact h)
 rw [bind_lite e4,e2,e3,hdf]; exact hbind _ vs rest hv
end
section
variable {K:Kx} (H:Here K)
include H
theorem Here.facts:factsB K.kf = true:=(Prod.mk.inj H.seen).1
theorem hereB:(clsB K.kf 40 = true∧clsB K.kf 137 = true)∧(slotB K.kf 40 "node" 41 0 = true∧slotB K.kf 40 "npredecessors" 42 1 = true∧slotB K.kf 40 "successors" 43 2 = true)∧(makeB K.kf 40 36 = true∧makeB K.kf 137 73 = true)∧methN.all (fun x=>methB K.kf 137 x.1 x.2) = true ∧
  bindL.all (bindB K.kf) = true∧attrN.all (attrB K.kf 137) = true∧(clsIn K.kf 137).any (·.hasDict) = true∧tup66 K.kf = true∧exc55 K.kf = true ∧
  globU.all (fun x=>(dk (K.kf.lookup mainGlobals)).lookup x.1 == some x.2) = true∧globB.all (fun x=>(dk (K.kf.lookup mainGlobals)).lookup x.1 == none) = true:=by
 have h:=H.facts
 unfold factsB at h
 simp only [Bool.and_eq_true,beq_iff_eq] at h
 obtain ⟨⟨⟨⟨⟨⟨⟨⟨⟨⟨⟨⟨⟨⟨a1,a2⟩,a3⟩,a4⟩,a5⟩,a6⟩,a7⟩,a8⟩,a9⟩,a10⟩,a11⟩,a12⟩,a13⟩,a14⟩,a15⟩:=h
 exact ⟨⟨a1,a2⟩,⟨a3,a4,a5⟩,⟨a6,a7⟩,a8,a9,a10,a11,a12,a13,a14,a15⟩
theorem cls_of {C:Addr} (h:clsB K.kf C = true):ClsF K C:=by
 unfold clsB at h
 simp only [Bool.and_eq_true,beq_iff_eq] at h
 exact ⟨h.1.1.1,h.1.1.2,h.1.2,h.2⟩
theorem cls40:ClsF K 40:=cls_of H (hereB H).1.1
theorem cls137:ClsF K 137:=cls_of H (hereB H).1.2
theorem slot_of' {name:Str} {p:Addr} {i:Nat} (h:slotB K.kf 40 name p i = true):SlotF K 40 name p i:=by
 unfold slotB at h
 simp only [Bool.and_eq_true,beq_iff_eq] at h
 exact ⟨h.1.1.1.1,h.1.1.1.2,h.1.1.2,h.1.2,h.2⟩
theorem slotNode:SlotF K 40 "node" 41 0:=slot_of' H (hereB H).2.1.1
theorem slotNp:SlotF K 40 "npredecessors" 42 1:=slot_of' H (hereB H).2.1.2.1
theorem slotSucc:SlotF K 40 "successors" 43 2:=slot_of' H (hereB H).2.1.2.2
theorem make_of' {C fI:Addr} (h:makeB K.kf C fI = true):MakeF K C fI∧keepIn K.kf (.ref C) = true:=by
 unfold makeB at h
 simp only [Bool.and_eq_true,beq_iff_eq] at h
 exact ⟨⟨h.1.1.1,h.1.1.2,h.1.2⟩,h.2⟩
theorem make40:MakeF K 40 36:=(make_of' H (hereB H).2.2.1.1).1
theorem keep40:keepIn K.kf (.ref 40) = true:=(make_of' H (hereB H).2.2.1.1).2
theorem make137:MakeF K 137 73:=(make_of' H (hereB H).2.2.1.2).1
theorem keep137:keepIn K.kf (.ref 137) = true:=(make_of' H (hereB H).2.2.1.2).2
theorem meth_at {name:Str} {fa:Addr} (h:(name,fa)∈methN):MethF K 137 name fa:=by
 have:=List.all_eq_true.mp (hereB H).2.2.2.1 _ h
 unfold methB at this
 simp only [Bool.and_eq_true,beq_iff_eq] at this
 exact ⟨this.1,this.2⟩
theorem attr_at {name:Str} (h:name∈attrN):findIn K.kf (.ref 137) name = some none∧takerIn K.kf 137 name = some none:=by
 have:=List.all_eq_true.mp (hereB H).2.2.2.2.2.1 _ h
 unfold attrB at this
 simp only [Bool.and_eq_true,beq_iff_eq] at this
 exact this
theorem dict137:(clsIn K.kf 137).any (·.hasDict) = true:=(hereB H).2.2.2.2.2.2.1
theorem exmSS:ExmF K (.type "StopIteration") (.type "StopIteration") true:=⟨.of_pure (by kernel_rfl),.of_pure (by kernel_rfl),.of_pure (by kernel_rfl)⟩
theorem own55:ownIn K.kf 55 "ValueError.__new__" mroVE = true:=by
 have h:=(hereB H).2.2.2.2.2.2.2.2.1
 unfold exc55 at h
 rw [Bool.and_eq_true,Bool.and_eq_true (a:=_ && _) (b:=ownIn _ _ _ _)] at h
 exact h.2.2
theorem exm55 {cls:Value} {b:Bool} (h4:subIn K.kf cls (.ref 55) = some b):ExmF K cls (.ref 55) b:=by
 have h:=(hereB H).2.2.2.2.2.2.2.2.1
 unfold exc55 at h
 simp only [Bool.and_eq_true,beq_iff_eq] at h
 obtain ⟨⟨⟨h1,h2⟩,h3⟩,_⟩:=h
 refine ⟨looks_instIn K.kfB h1,?_,looks_subIn K.kfB h4⟩
 obtain ⟨x,e2⟩:=Option.isSome_iff_exists.mp h2
 obtain ⟨o,ho,e3⟩:=Option.bind_eq_some_iff.mp e2
 obtain ⟨cd,hd,_⟩:=Option.map_eq_some_iff.mp e3
 intro A Q E s k q
 unfold isExcClass
 have L:Looks K.M K.B (isType (.ref 55)) true:=(Looks.ld (K.kfB _ _ ho)).andThen (by rw [of_cls hd]; exact .now)
 refine wpAny_bind ((L.keeps k).here ?_)
 rw [if_pos rfl]
 exact ((looks_subIn K.kfB h3).keeps k).here q
theorem exmCC:ExmF K (.ref 55) (.ref 55) true:=exm55 H (by
 have h:=(hereB H).2.2.2.2.2.2.2.2.1
 unfold exc55 at h
 simp only [Bool.and_eq_true,beq_iff_eq] at h
 exact h.2.1.2)
theorem init40 {n:Nat} {S:Cs} {a da:Addr} {k:Ky} (ha:S a = some (.inst 40 da [])) (hd:S da = some (.attrs [])) :
  WCall (n + 1) K (CR K) S (.ref 36) [.ref a,.py k.d] fun r S'=>r = .val .none∧∃ sa,S sa = none∧S' a = some (.inst 40 da [.py k.d,.int 0,.ref sa])∧S' sa = some (.lst [])∧∀ b,b≠a→b≠sa→S' b = S b:=by
 refine wcall_fn (ps:=["self", "node"]) H (by decide) rfl rfl ?_ (by kernel_rfl) ?_
 ·intro qn
  refine len2 ?_
  intro v1 v2
  kernel_rfl
 ·have e1:∀ x,setS [] 0 x = [x]:=fun o9=>rfl
  refine ws_cons (wx_setattr (a:=a) rfl (we_name rfl ⟨_,.slot (cls40 H) (slotNode H) ha hd (by decide) (by decide),?_⟩))
  have hda:da≠a:=fun q=>by rw [q,ha] at hd; (first | exact dNS hd | exact dSN hd | (obtain rfl:=Option.some.inj hd) | cases hd)
  generalize hS1:S.put a (.inst 40 da (setS [] 0 (.py k.d))) = S1
  have ha1:S1 a = some (.inst 40 da [.py k.d]):=hS1 ▸ Cs.put_self ..
  have hd1:S1 da = some (.attrs []):=hS1 ▸ (Cs.put_ne _ _ hda).trans hd
  refine ws_cons (wx_setattr (a:=a) rfl (we_int ⟨_,.slot (cls40 H) (slotNp H) ha1 hd1 (by simp) (by decide),?_⟩))
  generalize hS2:S1.put a (.inst 40 da (setS [.py k.d] 1 (.int 0))) = S2
  have ha2:S2 a = some (.inst 40 da [.py k.d,.int 0]):=hS2 ▸ Cs.put_self ..
  have hd2:S2 da = some (.attrs []):=hS2 ▸ (Cs.put_ne _ _ hda).trans hd1
  refine ws_cons (wx_setattr (a:=a) rfl (we_adopt (wf_list (wes_nil ⟨[],rfl,by decide,fun sa hsa=>⟨_,.slot (cls40 H) (slotSucc H) (C:=40) (da:=da) (sl:=[.py k.d,.int 0]) (l:=[]) ?_ ?_ (by simp) (by decide),?_⟩⟩))))
  ·have:a≠sa:=fun q=>by rw [q,hsa] at ha2; (first | exact dNS ha2 | exact dSN ha2 | (obtain rfl:=Option.some.inj ha2) | cases ha2)
   exact (Cs.put_ne _ _ this).trans ha2
  ·have:da≠sa:=fun q=>by rw [q,hsa] at hd2; (first | exact dNS hd2 | exact dSN hd2 | (obtain rfl:=Option.some.inj hd2) | cases hd2)
   exact (Cs.put_ne _ _ this).trans hd2
  ·have n1:a≠sa:=fun q=>by rw [q,hsa] at ha2; (first | exact dNS ha2 | exact dSN ha2 | (obtain rfl:=Option.some.inj ha2) | cases ha2)
   have s0:S sa = none:=by
    rw [← hsa,← hS2,Cs.put_ne _ _ n1.symm,← hS1,Cs.put_ne _ _ n1.symm]
   refine ws_nil ⟨rfl,sa,s0,Cs.put_self ..,(Cs.put_ne _ _ n1.symm).trans (Cs.put_self ..),fun b hb hb'=>?_⟩
   rw [Cs.put_ne _ _ hb,Cs.put_ne _ _ hb',← hS2,Cs.put_ne _ _ hb,← hS1,Cs.put_ne _ _ hb]
end
theorem quiet_of {F:Frag} {N:Addr} (h:quietNs F N = true):∃ mN:Str→Option Value,(∀ {hp:Heap},F.In hp→hp.Ns N mN)∧∀ n∈quietNames,mN n = none:=by
 unfold quietNs at h
 cases e:(F.lookup N).bind fun o=>dictOf o.data with
 | none=>rw [e] at h; exact (Bool.false_ne_true h).elim
 | some es =>
  rw [e] at h
  obtain ⟨h1,h2⟩:=Bool.and_eq_true_iff.mp h
  obtain ⟨o,ho,hd⟩:=Option.bind_eq_some_iff.mp e
  obtain ⟨ep,hd⟩:=of_dict hd
  exact ⟨fun x=>nsFind es x,fun X=>⟨_,es,ep,X _ _ ho,hd,fun e he=>let ⟨x,hx⟩:=Option.isSome_iff_exists.mp (List.all_eq_true.mp h1 e (Array.mem_toList_iff.mpr he)); ⟨x,of_str hx⟩,fun o9=>rfl⟩,fun n hn=>Option.isNone_iff_eq_none.mp (List.all_eq_true.mp h2 n hn)⟩
inductive OwnCls (F:Frag) (C:Addr) (newId:String) (bm:List Value):Prop
 | mk (nm q N bs hdct sn sub ab col dd k0 k1 k2 k3 k5) (mN:Str→Option Value) (hh:∀ {hp:Heap},F.In hp→hp.get? C = some (excClassObj nm q C N bs bm hdct sn sub ab col dd k0 k1 k2 k3 k5 newId)∧hp.Ns N mN) (hq:∀ n∈quietNames,mN n = none)
theorem own_of {F:Frag} {C:Addr} {newId:String} {bm:List Value} (h:ownIn F C newId bm = true):OwnCls F C newId bm:=by
 unfold ownIn at h
 cases e:ownCd F C with
 | none=>rw [e] at h; exact (Bool.false_ne_true h).elim
 | some x =>
  rw [e] at h
  obtain ⟨h,h6⟩:=Bool.and_eq_true_iff.mp h
  obtain ⟨h,h5⟩:=Bool.and_eq_true_iff.mp h
  obtain ⟨h,h4⟩:=Bool.and_eq_true_iff.mp h
  obtain ⟨h,h3⟩:=Bool.and_eq_true_iff.mp h
  obtain ⟨h1,h2⟩:=Bool.and_eq_true_iff.mp h
  obtain ⟨o,ho,e2⟩:=Option.bind_eq_some_iff.mp e
  obtain ⟨cd,hd,rfl⟩:=Option.map_eq_some_iff.mp e2
  have hd:=of_cls hd
  obtain ⟨c,dd,da,⟨sl⟩⟩:=o
  obtain ⟨nm,bs,mro,N,q,hdct,sn,sub,ab,col,hdel⟩:=cd
  obtain rfl:c = .type "type":=eq_of_beq h1
  obtain rfl:mro = .ref C :: bm:=eq_of_beq h2
  obtain rfl:hdel = false:=Bool.not_eq_true' _ ▸ h3
  obtain rfl:da = _:=hd
  obtain ⟨k0,k1,k2,k3,k5,rfl⟩:=six_places (l:=sl) (eq_of_beq h4) ((Array.getElem?_toList ..).trans (eq_of_beq h5))
  obtain ⟨mN,hn,hq⟩:=quiet_of h6
  exact ⟨nm,q,N,bs,hdct,sn,sub,ab,col,dd,k0,k1,k2,k3,k5,mN,fun X=>⟨X _ _ ho,hn X⟩,hq⟩
section
variable {n:Nat} {K:Kx} {R:Rsc} {sc:Scope} {ρ:Rho} {S:R.σ}
theorem wx_raiseOwn {B newId initId:String} {bm:List Value} {C:Addr} (FB:ExcBaseFacts B newId initId bm) (ho:ownIn K.kf C newId bm = true) {x:Str} {np cpos pos:Pos} {e₀:Expr} {rest:List Expr} {Q:Fl→Rho→R.σ→Prop} (hg:K.gl x = some (.ref C))
  (h:WEs n K R sc ρ S (e₀ :: rest) (AsL fun ps=>Q (.exc (.ref C) ps) ρ)) (hk:sc.names.lookup x = some .globalImplicit:=by rfl) (hd:(x == ("__debug__":Str)) = false:=by rfl)
  (he:∀ env,starEach (e₀ :: rest) env = (false,eval e₀ env) :: starEach rest env:=by intro o9; rfl) (hplain:∀ env,(backTo cpos (starEach rest env)).any (·.1) = false:=by intro o9; rfl) (hpos:0 < n:=by first | exact Nat.succ_pos _ | omega) :
  WX n K R sc ρ S (.Raise (some (.Call (.Name x np) (e₀ :: rest) [] cpos)) none pos) Q :=
 fun A G env Φ s ok hm I=>by
  obtain ⟨nm,q,N,bs,hdct,sn,sub,ab,col,dd,k0,k1,k2,k3,k5,mN,hh,hqn⟩:=own_of ho
  have hni:=hqn "__init__" (.head _)
  refine wpAny_Raise_call_subT (C:=C) (nm:=nm) (q:=q) (N:=N) (bs:=bs) (bm:=bm) (hdct:=hdct) (sn:=sn) (sub:=sub) (ab:=ab) (col:=col) (dd:=dd) (k0:=k0) (k1:=k1) (k2:=k2) (k3:=k3) (k5:=k5)
   FB (mN:=mN) FB.hasBase (ok.hd hpos) (by rw [he]; show (false || (backTo cpos (starEach rest env)).any (·.1)) = false; rw [hplain]; rfl) hni (wpAny_Name (loads I (glob_var I.scp hg hk) ⟨rfl,?_⟩) hd)
  have h':=h cpos A G env Φ s ok I
  rw [he] at h' ⊢
  refine Calls.evalArgs_plain (wpAny_mono h' (fun vs s₁ ⟨Φ₁,S₁,ds,y,r,ps,e1,hl,q⟩=>⟨rfl,?_,(hh y.inv.kf).1,(hh y.inv.kf).2,.base,fun h' ea X=>?_⟩) fun o9 o9 x=>x.elim)
  ·subst e1; show vs.length≤_; rw [r.length]; simpa using hl
  subst e1
  obtain ⟨hk1,hnew,t,ho,htn,ht⟩:=X
  have hte:ea≠t:=fun q=>by rw [q,ht] at ho; (first | exact dNS ho | exact dSN ho | (obtain rfl:=Option.some.inj ho) | cases ho)
  have hps:Reps Φ₁ ps vs:=r.pys
  have st:=Step.of_keeps_new (tk:=s₁.toks) (dr:=s₁.drawn) y.inv.froz hk1 htn ht
  have hΦt:=none_of_fresh y.inv.froz htn
  refine ⟨ea,_,ρ,S₁,.ref C,ps,false,rfl,After.stmt I (y.pure st),(fun z=>by cases z),⟨?_,fp_fresh y.inv hnew,heap_none_of_step y.step hnew,_,_,t,ho,rfl,rfl,rfl,by simp,?_,.inl ⟨rfl,rfl⟩⟩,q⟩
  ·simp only [Fz.add,if_neg hte]; exact none_of_fresh y.inv.froz hnew
  ·exact ⟨t,_,_,_,rfl,Fz.add_self ..,⟨rfl,rfl,rfl⟩,rfl,hps.mono (Fz.le_add hΦt)⟩
end
set_option genInjectivity false in
structure Nd where
 key:Ky
 ia:Addr
 da:Addr
 sa:Addr
 np:Int
 succ:List Ky
set_option genInjectivity false in
structure SS where
 a:Addr
 da:Addr
 nd:Addr
 nodes:List Nd
 rl:Option (Addr×List Ky)
 out:Int
 fin:Int
noncomputable def kyL (l:List Ky):List D:=l.map fun k=>.py k.d
noncomputable def rlD:Option (Addr×List Ky)→D
 | none=>.none
 | some (r,_)=>.ref r
noncomputable def SS.attrs (T:SS):List (Str×D):=[("_node2info",.ref T.nd),("_ready_nodes",rlD T.rl),("_npassedout",.int T.out),("_nfinished",.int T.fin)]
structure NdOk (S:Cs) (x:Nd):Prop where
 info:S x.ia = some (.inst 40 x.da [.py x.key.d,.int x.np,.ref x.sa])
 dict:S x.da = some (.attrs [])
 succ:S x.sa = some (.lst (kyL x.succ))
structure Sorter (S:Cs) (T:SS):Prop where
 inst:S T.a = some (.inst 137 T.da [])
 attrs:S T.da = some (.attrs T.attrs)
 map:S T.nd = some (.map (T.nodes.map fun x=>(x.key,.ref x.ia)))
 nodes:∀ x∈T.nodes,NdOk S x
 rl:∀ r ks,T.rl = some (r,ks)→S r = some (.lst (kyL ks))
 dia:(T.nodes.map (·.ia)).Nodup
 dsa:(T.nodes.map (·.sa)).Nodup
 drl:∀ r ks,T.rl = some (r,ks)→r∉T.nodes.map (·.sa)
 keys:(T.nodes.map (·.key)).Nodup
theorem peek66 {F:Frag} (h:tup66 F = true):∃ x2 x3 x4,F.lookup 66 = some ⟨.type "tuple",x2,.seq #[.none] x3,x4⟩:=by
 obtain ⟨o,ho,e⟩:=Option.map_eq_some_iff.mp (eq_of_beq h)
 obtain ⟨h1,h2⟩:=Prod.mk.inj e
 obtain ⟨n,h3⟩:=of_seq h2
 obtain ⟨c,x2,da,x4⟩:=o
 obtain rfl:c = _:=h1
 obtain rfl:da = _:=h3
 exact ⟨_,_,_,ho⟩
section
variable {K:Kx} (H:Here K)
include H
theorem binds73 {a:Addr} {fd:FuncData} (e2:fd.params = parAt 73) (e3:fd.defaults = dfAt 73) (e4:fd.kwdefaults = .none):Binds K fd [.ref a] [("self",.ref a),("graph",.none)]:=fun A Φ s vs F hr=>by
 obtain ⟨v,r,rfl,h1,h2⟩:=hr
 cases h1; cases h2
 have X:K.kf.In s.heap:=K.kfB.keeps F.keeps
 obtain ⟨x2,x3,x4,h66⟩:=peek66 (hereB H).2.2.2.2.2.2.2.1
 have X':Frag.In [(66,⟨.type "tuple",x2,.seq #[.none] x3,x4⟩)] s.heap:=fun b o e=>by
  rw [List.lookup_cons] at e
  by_cases q:b = 66
  ·subst q; simp at e; subst e; exact X _ _ h66
  ·have:(b == 66) = false:=by simpa using q
   rw [this] at e; (first | exact dNS e | exact dSN e | (obtain rfl:=Option.some.inj e) | cases e)
 have L:Looks K.M s.heap (bindArgs fd ⟨[.ref a],[]⟩) [("self",.ref a),("graph",.none)]:=by
  rw [bind_lite e4,e2,e3]; exact Looks.of_peek X' (by kernel_rfl)
 exact L.here ⟨Φ,.refl F.froz,⟨_,_,rfl,rfl,_,_,rfl,(by first | exact rfl | exact ⟨_,rfl⟩),rfl⟩⟩
theorem init137 {n:Nat} {S:Cs} {a da:Addr} (ha:S a = some (.inst 137 da [])) (hd:S da = some (.attrs [])) :
  WCall (n + 1) K (CR K) S (.ref 73) [.ref a] fun r S'=>r = .val .none∧∃ T:SS,Sorter S' T∧T.a = a∧T.nodes = []∧T.rl = none∧T.out = 0∧T.fin = 0:=by
 obtain ⟨fd,fn,e1,e2,e3,e4⟩:=H.fn (a:=73) (by decide)
 refine wcall_gen (l:=[("self",.ref a),("graph",.none)]) fn (binds73 H e2 e3 e4) (by rw [e1]; kernel_rfl) ?_
 rw [e1]
 clear fn e1 e2 e3 e4
 have hda:a≠da:=fun q=>by rw [q,hd] at ha; (first | exact dNS ha | exact dSN ha | (obtain rfl:=Option.some.inj ha) | cases ha)
 refine ws_cons (wx_setattr (a:=a) rfl (we_dict fun nd hnd=>⟨_,.dict (cls137 H) (C:=137) (da:=da) (sl:=[]) (l:=[]) ?_ ?_ (by decide) (attr_at H (by decide)).2 (dict137 H),?_⟩))
 ·exact (Cs.put_ne _ _ fun q=>by rw [q,hnd] at ha; (first | exact dNS ha | exact dSN ha | (obtain rfl:=Option.some.inj ha) | cases ha)).trans ha
 ·exact (Cs.put_ne _ _ fun q=>by rw [q,hnd] at hd; (first | exact dNS hd | exact dSN hd | (obtain rfl:=Option.some.inj hd) | cases hd)).trans hd
 have n1:nd≠a:=fun q=>by rw [← q,hnd] at ha; (first | exact dNS ha | exact dSN ha | (obtain rfl:=Option.some.inj ha) | cases ha)
 have n2:nd≠da:=fun q=>by rw [← q,hnd] at hd; (first | exact dNS hd | exact dSN hd | (obtain rfl:=Option.some.inj hd) | cases hd)
 generalize hS1:(S.put nd (.map [])).put da (.attrs (setA [] "_node2info" (.ref nd))) = S1
 have a1:S1 a = some (.inst 137 da []):=hS1 ▸ (Cs.put_ne _ _ hda).trans ((Cs.put_ne _ _ n1.symm).trans ha)
 have d1:S1 da = some (.attrs [("_node2info",.ref nd)]):=hS1 ▸ Cs.put_self ..
 have m1:S1 nd = some (.map []):=hS1 ▸ (Cs.put_ne _ _ n2).trans (Cs.put_self ..)
 refine ws_cons (wx_setattr (a:=a) rfl (we_none ⟨_,.dict (cls137 H) a1 d1 (by simp) (attr_at H (by decide)).2 (dict137 H),?_⟩))
 generalize hS2:S1.put da _ = S2
 have a2:S2 a = some (.inst 137 da []):=hS2 ▸ (Cs.put_ne _ _ hda).trans a1
 have d2:S2 da = some (.attrs [("_node2info",.ref nd),("_ready_nodes",.none)]):=hS2 ▸ Cs.put_self ..
 have m2:S2 nd = some (.map []):=hS2 ▸ (Cs.put_ne _ _ n2).trans m1
 refine ws_cons (wx_setattr (a:=a) rfl (we_int ⟨_,.dict (cls137 H) a2 d2 (by simp) (attr_at H (by decide)).2 (dict137 H),?_⟩))
 generalize hS3:S2.put da _ = S3
 have a3:S3 a = some (.inst 137 da []):=hS3 ▸ (Cs.put_ne _ _ hda).trans a2
 have d3:S3 da = some (.attrs [("_node2info",.ref nd),("_ready_nodes",.none),("_npassedout",.int 0)]):=hS3 ▸ Cs.put_self ..
 have m3:S3 nd = some (.map []):=hS3 ▸ (Cs.put_ne _ _ n2).trans m2
 refine ws_cons (wx_setattr (a:=a) rfl (we_int ⟨_,.dict (cls137 H) a3 d3 (by simp) (attr_at H (by decide)).2 (dict137 H),?_⟩))
 generalize hS4:S3.put da _ = S4
 have a4:S4 a = some (.inst 137 da []):=hS4 ▸ (Cs.put_ne _ _ hda).trans a3
 have d4:S4 da = some (.attrs [("_node2info",.ref nd),("_ready_nodes",.none),("_npassedout",.int 0),("_nfinished",.int 0)]):=hS4 ▸ Cs.put_self ..
 have m4:S4 nd = some (.map []):=hS4 ▸ (Cs.put_ne _ _ n2).trans m3
 refine ws_cons (wx_if (wt_isnot (we_name (d:=.none) rfl ?_)))
 refine ws_nil (ws_nil ⟨rfl,⟨a,da,nd,[],none,0,0⟩,⟨a4,d4,m4,by simp,by simp,by simp,by simp,by simp,by simp⟩,rfl,rfl,rfl,rfl,rfl⟩)
end
theorem atK_nodes {k:Ky} {l:List Nd}:(∃ x∈l,x.key = k∧atK (l.map fun x=>(x.key,.ref x.ia)) k = some (.ref x.ia))∨(k∉l.map (·.key)∧atK (l.map fun x=>(x.key,.ref x.ia)) k = none):=by
 induction l with
 | nil =>
  exact .inr ⟨by simp,rfl⟩
 | cons x l ih =>
  simp only [List.map_cons,atK_cons]
  by_cases q:x.key = k
  ·exact .inl ⟨x,.head _,q,by rw [if_pos q]⟩
  ·rcases ih with ⟨y,h1,h2,h3⟩ | ⟨h1,h2⟩
   ·exact .inl ⟨y,.tail _ h1,h2,by rw [if_neg q]; exact h3⟩
   ·exact .inr ⟨by simp only [List.mem_cons,not_or]; exact ⟨fun z=>q z.symm,h1⟩,by rw [if_neg q]; exact h2⟩
theorem putK_nodes {k:Ky} {d:D} {l:List Nd}:k∉l.map (·.key)→putK (l.map fun x=>(x.key,D.ref x.ia)) k d = (l.map fun x=>(x.key,.ref x.ia)) ++ [(k,d)]:=by
 induction l with
 | nil =>
  rintro o9
  exact rfl
 | cons x l ih =>
  rintro h
  simp only [List.map_cons,List.mem_cons,not_or] at h
  rw [List.map_cons,putK_cons]
  rw [if_neg (fun q=>h.1 q.symm),ih h.2]; rfl
theorem Sorter.keep {S S':Cs} {T:SS} (h:Sorter S T) (k:∀ b c,S b = some c→S' b = some c):Sorter S' T :=
 ⟨k _ _ h.inst,k _ _ h.attrs,k _ _ h.map,fun x hx=>⟨k _ _ (h.nodes x hx).info,k _ _ (h.nodes x hx).dict,k _ _ (h.nodes x hx).succ⟩,fun r ks e=>k _ _ (h.rl r ks e),h.dia,h.dsa,h.drl,h.keys⟩
section
variable {K:Kx} (H:Here K)
include H
theorem fn80:FnO K 80:=H.fo (by decide)
theorem getN2i {S:Cs} {T:SS} (h:Sorter S T):GetA K S T.a "_node2info" (.ref T.nd):=.dict (cls137 H) h.inst h.attrs rfl (attr_at H (by decide)).1 (dict137 H) rfl
theorem getRl {S:Cs} {T:SS} (h:Sorter S T):GetA K S T.a "_ready_nodes" (rlD T.rl):=.dict (cls137 H) h.inst h.attrs rfl (attr_at H (by decide)).1 (dict137 H) (by cases T.rl <;> rfl)
noncomputable def GotNd (T:SS) (k:Ky) (x:Nd) (T':SS):Prop :=
 x.key = k∧x∈T'.nodes∧((T' = T∧x∈T.nodes)∨(k∉T.nodes.map (·.key)∧x.np = 0∧x.succ = []∧T' = { T with nodes:=T.nodes ++ [x] }))
theorem get80 {n:Nat} {S:Cs} {T:SS} {k:Ky} (h:Sorter S T) (hl:T.nodes.length≤900) :
  WCall (n + 3) K (CR K) S (.ref 80) [.ref T.a,.py k.d] fun r S'=>∃ x T',Sorter S' T'∧GotNd T k x T'∧r = .val (.ref x.ia):=by
 refine wcall_fn (ps:=["self", "node"]) H (by decide) rfl rfl ?_ (by kernel_rfl) ?_
 ·intro qn
  refine len2 ?_
  intro v1 v2
  kernel_rfl
 refine ws_cons (wx_ifwalrus (we_cmeth1 F.plainAttrs_dict F.slot_dict_get F.type_dict_get (we_attr (a:=T.a) rfl (getN2i H h) ⟨T.nd,_,rfl,h.map,rfl,we_name rfl (op_get h.map ?_)⟩)))
 rcases atK_nodes (k:=k) (l:=T.nodes) with ⟨x,hx,hk,e⟩ | ⟨hk,e⟩
 ·rw [e]
  show WS _ _ _ _ _ _ [] _
  refine ws_nil (ws_cons (wx_return (we_name rfl ?_)))
  exact ⟨x,T,h,⟨hk,hx,.inl ⟨rfl,hx⟩⟩,rfl⟩
 ·rw [e]
  show WS _ _ _ _ _ _ (_ :: _) _
  refine ws_cons (wx_itemname (ky:=k) rfl (WEX.no (wex_new (C:=40) (H.gl _ _ rfl) (keep40 H) (wes_cons (we_name rfl (wes_nil (wcall_make (make40 H) fun ia da hia hda hne=>?_)))))))
  refine (init40 H (k:=k) (Cs.put_self ..) ((Cs.put_ne _ _ hne.symm).trans (Cs.put_self ..))).mono fun r S' hp0=>?_
  obtain ⟨hr,sa,hsa,q1,q2,q3⟩:=hp0
  subst hr
  refine ⟨rfl,?_⟩
  have nsa:sa≠ia:=fun q=>by rw [q,Cs.put_self] at hsa; (first | exact dNS hsa | exact dSN hsa | (obtain rfl:=Option.some.inj hsa) | cases hsa)
  have nda:sa≠da:=fun q=>by rw [q,Cs.put_ne _ _ hne.symm,Cs.put_self] at hsa; (first | exact dNS hsa | exact dSN hsa | (obtain rfl:=Option.some.inj hsa) | cases hsa)
  have hsa':S sa = none:=by rw [Cs.put_ne _ _ nsa,Cs.put_ne _ _ nda] at hsa; exact hsa
  have old:∀ b,S b≠none→S' b = S b:=fun b hb=>by
   have n1:b≠ia:=fun q=>hb (q ▸ hia)
   have n2:b≠da:=fun q=>hb (q ▸ hda)
   have n3:b≠sa:=fun q=>hb (q ▸ hsa')
   rw [q3 b n1 n3,Cs.put_ne _ _ n1,Cs.put_ne _ _ n2]
  have keep:∀ b c,S b = some c→S' b = some c:=fun b c e=>by rw [old b (by rw [e]; exact fun z=>by cases z)]; exact e
  have hS':=h.keep keep
  refine we_attr (a:=T.a) rfl (getN2i H hS') ⟨T.nd,_,rfl,hS'.map,by simp; grows_one,?_⟩
  refine ws_nil (ws_cons (wx_return (we_name rfl ?_)))
  have d':S' da = some (.attrs []):=by
   rw [q3 da hne.symm nda.symm,Cs.put_ne _ _ hne.symm,Cs.put_self]
  have ne:∀ b,S b = none→b≠T.nd:=fun b hb q=>by rw [q,h.map] at hb; (first | exact dNS hb | exact dSN hb | (obtain rfl:=Option.some.inj hb) | cases hb)
  have pu:∀ b c,b≠T.nd→S' b = some c→(S'.put T.nd (.map (putK (T.nodes.map fun x=>(x.key,.ref x.ia)) k (.ref ia)))) b = some c:=fun b c hb e=>(Cs.put_ne _ _ hb).trans e
  have inn:∀ b c,(∀ l,c≠.map l)→S' b = some c→b≠T.nd:=fun b c hc e q=>by rw [q,hS'.map] at e; exact hc _ (Option.some.inj e).symm
  refine ⟨⟨k,ia,da,sa,0,[]⟩,{ T with nodes:=T.nodes ++ [⟨k,ia,da,sa,0,[]⟩] },⟨?_,?_,?_,?_,?_,?_,?_,?_,?_⟩,⟨rfl,by simp,.inr ⟨hk,rfl,rfl,rfl⟩⟩,rfl⟩
  ·exact pu _ _ (inn _ _ (by simp) hS'.inst) hS'.inst
  ·exact pu _ _ (inn _ _ (by simp) hS'.attrs) hS'.attrs
  ·refine (Cs.put_self ..).trans ?_
   rw [putK_nodes hk]; simp
  ·intro x hx
   rcases List.mem_append.mp hx with hx | hx
   ·have z:=hS'.nodes x hx
    exact ⟨pu _ _ (inn _ _ (by simp) z.info) z.info,pu _ _ (inn _ _ (by simp) z.dict) z.dict,pu _ _ (inn _ _ (by simp) z.succ) z.succ⟩
   ·simp at hx; subst hx
    exact ⟨pu _ _ (ne _ hia) q1,pu _ _ (ne _ hda) d',pu _ _ (ne _ hsa') q2⟩
  ·intro r ks e
   exact pu _ _ (inn _ _ (by simp) (hS'.rl r ks e)) (hS'.rl r ks e)
  ·simp only [List.map_append,List.map_cons,List.map_nil]
   refine List.nodup_append.mpr ⟨h.dia,by simp,fun b hb c hc e=>?_⟩
   simp at hc; subst hc; subst e
   obtain ⟨x,hx,rfl⟩:=List.mem_map.mp hb
   rw [(h.nodes x hx).info] at hia; (first | exact dNS hia | exact dSN hia | (obtain rfl:=Option.some.inj hia) | cases hia)
  ·simp only [List.map_append,List.map_cons,List.map_nil]
   refine List.nodup_append.mpr ⟨h.dsa,by simp,fun b hb c hc e=>?_⟩
   simp at hc; subst hc; subst e
   obtain ⟨x,hx,rfl⟩:=List.mem_map.mp hb
   rw [(h.nodes x hx).succ] at hsa'; (first | exact dNS hsa' | exact dSN hsa' | (obtain rfl:=Option.some.inj hsa') | cases hsa')
  ·intro r ks e
   simp only [List.map_append,List.map_cons,List.map_nil,List.mem_append,List.mem_singleton,not_or]
   refine ⟨h.drl r ks e,fun q=>?_⟩
   rw [← q,h.rl r ks e] at hsa'; (first | exact dNS hsa' | exact dSN hsa' | (obtain rfl:=Option.some.inj hsa') | cases hsa')
  ·simp only [List.map_append,List.map_cons,List.map_nil]
   refine List.nodup_append.mpr ⟨h.keys,by simp,fun b hb c hc eb=>?_⟩
   simp at hc
   exact hk (hc ▸ eb ▸ hb)
end
noncomputable def SS.on (T:SS) (k:Ky) (f:Nd→Nd):SS:={ T with nodes:=T.nodes.map fun y=>if y.key = k then f y else y }
theorem on_map {α:Type} {l:List Nd} {k:Ky} {f:Nd→Nd} (g:Nd→α) (hg:∀ x,g (f x) = g x):(l.map fun y=>if y.key = k then f y else y).map g = l.map g:=by
 rw [List.map_map]
 refine List.map_congr_left fun x o9=>?_
 show g (if x.key = k then f x else x) = g x
 split
 ·exact hg x
 ·rfl
theorem map_inj {α β:Type} {f:α→β} {l:List α} (h:(l.map f).Nodup) {x y:α} (hx:x∈l) (hy:y∈l) (e:f x = f y):x = y:=by
 induction l with
 | nil=>cases hx
 | cons z l ih =>
  simp only [List.map_cons,List.nodup_cons,List.mem_map,not_exists,not_and] at h
  rcases List.mem_cons.mp hx with hx1 | hx1 <;> rcases List.mem_cons.mp hy with hy1 | hy1
  ·rw [hx1,hy1]
  ·exact absurd (hx1 ▸ e.symm) (h.1 y hy1)
  ·exact absurd (hy1 ▸ e) (h.1 x hx1)
  ·exact ih h.2 hx1 hy1
theorem key_inj {l:List Nd} (h:(l.map (·.key)).Nodup) {x y:Nd} (hx:x∈l) (hy:y∈l) (e:x.key = y.key):x = y:=map_inj h hx hy e
theorem ia_inj {l:List Nd} (h:(l.map (·.ia)).Nodup) {x y:Nd} (hx:x∈l) (hy:y∈l) (e:x.ia = y.ia):x = y:=map_inj h hx hy e
theorem sa_inj {l:List Nd} (h:(l.map (·.sa)).Nodup) {x y:Nd} (hx:x∈l) (hy:y∈l) (e:x.sa = y.sa):x = y:=map_inj h hx hy e
theorem Sorter.setNp {S:Cs} {T:SS} {x:Nd} (h:Sorter S T) (hx:x∈T.nodes) (i:Int):Sorter (S.put x.ia (.inst 40 x.da [.py x.key.d,.int i,.ref x.sa])) (T.on x.key fun y=>{ y with np:=i }):=by
 have nx:=h.nodes x hx
 have pu:∀ b c,(∀ C d l,c≠.inst 40 d l∨C = c)→b≠x.ia→S b = some c→(S.put x.ia (.inst 40 x.da [.py x.key.d,.int i,.ref x.sa])) b = some c:=fun b c o9 hb e=>(Cs.put_ne _ _ hb).trans e
 have ne:∀ b c,S b = some c→c≠.inst 40 x.da [.py x.key.d,.int x.np,.ref x.sa]→(S.put x.ia (.inst 40 x.da [.py x.key.d,.int i,.ref x.sa])) b = some c:=fun b c e hc=>by
  have:b≠x.ia:=fun q=>by rw [q,nx.info] at e; exact hc (Option.some.inj e).symm
  exact (Cs.put_ne _ _ this).trans e
 refine ⟨ne _ _ h.inst (by simp),ne _ _ h.attrs (by simp),?_,fun y hy=>?_,fun r ks e=>ne _ _ (h.rl r ks e) (by simp),?_,?_,?_,?_⟩
 ·have:=on_map (l:=T.nodes) (k:=x.key) (f:=fun y=>{ y with np:=i }) (fun y=>(y.key,D.ref y.ia)) (fun o9=>rfl)
  show _ = some (Cell.map ((T.nodes.map fun y=>if y.key = x.key then { y with np:=i } else y).map fun y=>(y.key,D.ref y.ia)))
  rw [this]; exact ne _ _ h.map (by simp)
 ·obtain ⟨z,hz,rfl⟩:=List.mem_map.mp hy
  have nz:=h.nodes z hz
  by_cases q:z.key = x.key
  ·have:z = x:=key_inj h.keys hz hx q
   subst this
   rw [if_pos rfl]
   exact ⟨Cs.put_self ..,ne _ _ nz.dict (by simp),ne _ _ nz.succ (by simp)⟩
  ·rw [if_neg q]
   refine ⟨(Cs.put_ne _ _ fun e=>q ?_).trans nz.info,ne _ _ nz.dict (by simp),ne _ _ nz.succ (by simp)⟩
   rw [ia_inj h.dia hz hx e]
 ·exact (on_map (l:=T.nodes) (k:=x.key) (f:=fun y=>{ y with np:=i }) (·.ia) fun o9=>rfl).symm ▸ h.dia
 ·exact (on_map (l:=T.nodes) (k:=x.key) (f:=fun y=>{ y with np:=i }) (·.sa) fun o9=>rfl).symm ▸ h.dsa
 ·intro r ks e
  exact (on_map (l:=T.nodes) (k:=x.key) (f:=fun y=>{ y with np:=i }) (·.sa) fun o9=>rfl).symm ▸ h.drl r ks e
 ·exact (on_map (l:=T.nodes) (k:=x.key) (f:=fun y=>{ y with np:=i }) (·.key) fun o9=>rfl).symm ▸ h.keys
theorem Sorter.setSucc {S:Cs} {T:SS} {x:Nd} (h:Sorter S T) (hx:x∈T.nodes) (l:List Ky):Sorter (S.put x.sa (.lst (kyL l))) (T.on x.key fun y=>{ y with succ:=l }):=by
 have nx:=h.nodes x hx
 have ne:∀ b c,S b = some c→(∀ l,c≠.lst l)→(S.put x.sa (.lst (kyL l))) b = some c:=fun b c e hc=>by
  have:b≠x.sa:=fun q=>by rw [q,nx.succ] at e; exact hc _ (Option.some.inj e).symm
  exact (Cs.put_ne _ _ this).trans e
 refine ⟨ne _ _ h.inst (by simp),ne _ _ h.attrs (by simp),?_,fun y hy=>?_,fun r ks e=>?_,?_,?_,?_,?_⟩
 ·have:=on_map (l:=T.nodes) (k:=x.key) (f:=fun y=>{ y with succ:=l }) (fun y=>(y.key,D.ref y.ia)) (fun o9=>rfl)
  show _ = some (Cell.map ((T.nodes.map fun y=>if y.key = x.key then { y with succ:=l } else y).map fun y=>(y.key,D.ref y.ia)))
  rw [this]; exact ne _ _ h.map (by simp)
 ·obtain ⟨z,hz,rfl⟩:=List.mem_map.mp hy
  have nz:=h.nodes z hz
  by_cases q:z.key = x.key
  ·have:z = x:=key_inj h.keys hz hx q
   subst this
   rw [if_pos rfl]
   exact ⟨ne _ _ nz.info (by simp),ne _ _ nz.dict (by simp),Cs.put_self ..⟩
  ·rw [if_neg q]
   refine ⟨ne _ _ nz.info (by simp),ne _ _ nz.dict (by simp),(Cs.put_ne _ _ fun e=>q ?_).trans nz.succ⟩
   rw [sa_inj h.dsa hz hx e]
 ·refine (Cs.put_ne _ _ fun q=>?_).trans (h.rl r ks e)
  exact h.drl r ks e (q ▸ List.mem_map.mpr ⟨x,hx,rfl⟩)
 ·exact (on_map (l:=T.nodes) (k:=x.key) (f:=fun y=>{ y with succ:=l }) (·.ia) fun o9=>rfl).symm ▸ h.dia
 ·exact (on_map (l:=T.nodes) (k:=x.key) (f:=fun y=>{ y with succ:=l }) (·.sa) fun o9=>rfl).symm ▸ h.dsa
 ·intro r ks e
  exact (on_map (l:=T.nodes) (k:=x.key) (f:=fun y=>{ y with succ:=l }) (·.sa) fun o9=>rfl).symm ▸ h.drl r ks e
 ·exact (on_map (l:=T.nodes) (k:=x.key) (f:=fun y=>{ y with succ:=l }) (·.key) fun o9=>rfl).symm ▸ h.keys
abbrev An:=Ky×Int×List Ky
noncomputable def Nd.an (x:Nd):An:=(x.key,x.np,x.succ)
noncomputable def SS.an (T:SS):List An:=T.nodes.map Nd.an
noncomputable def ensureG (g:List An) (k:Ky):List An:=if k∈g.map (·.1) then g else g ++ [(k,0,[])]
noncomputable def bumpG (g:List An) (k:Ky) (j:Int):List An:=g.map fun x=>if x.1 = k then (x.1,x.2.1 + j,x.2.2) else x
noncomputable def linkG (g:List An) (p k:Ky):List An:=g.map fun x=>if x.1 = p then (x.1,x.2.1,x.2.2 ++ [k]) else x
noncomputable def addG (g:List An) (k:Ky) (ps:List Ky):List An:=ps.foldl (fun g p=>linkG (ensureG g p) p k) (bumpG (ensureG g k) k ps.length)
theorem an_keys (T:SS):T.an.map (·.1) = T.nodes.map (·.key):=by unfold SS.an; rw [List.map_map]; rfl
structure AnOf (T:SS) (k:Ky) (T':SS):Prop where
 an:T'.an = ensureG T.an k
 a:T'.a = T.a
 rl:T'.rl = T.rl
 out:T'.out = T.out
 fin:T'.fin = T.fin
 len:T'.nodes.length≤T.nodes.length + 1
theorem GotNd.an {T T':SS} {k:Ky} {x:Nd} (h:GotNd T k x T'):AnOf T k T':=by
 obtain ⟨h1,h2,⟨rfl,h3⟩ | ⟨h3,h4,h5,rfl⟩⟩:=h
 ·refine ⟨?_,rfl,rfl,rfl,rfl,by dict_keeps⟩
  unfold ensureG; rw [an_keys,if_pos (List.mem_map.mpr ⟨x,h3,h1⟩)]
 ·refine ⟨?_,rfl,rfl,rfl,rfl,by simp⟩
  unfold ensureG; rw [an_keys,if_neg h3]
  unfold SS.an; rw [List.map_append]
  simp only [List.map_cons,List.map_nil,Nd.an,h1,h4,h5]
theorem cv_lenT {n:Nat} {K:Kx} {l:List PyData} (hl:l.length < 2 ^ 62):CallV n K (.builtin "len") [.tup l] (.int l.length):=fun A Φ s W vs ok F rr Q E h=>by
 obtain ⟨v,rfl,r⟩:=rr.one
 have r':=r.nolist (fun l e=>by cases e)
 obtain ⟨a,o,vs,m,rfl,h1,h2,h3,h4⟩:=r'
 have hz:=size_eq h4
 exact PyProof.Rows.len_tuple ⟨o,F.froz _ _ h1,h2.1,m,h3⟩ (by rw [hz]; dict_keeps) (h _ Φ _ (.tok F.froz) ⟨_,by rw [hz]⟩)
inductive AddJ (T:SS) (k:Ky) (ps pre:List Ky) (ρ':Rho) (S':Cs):Prop
 | mk (rho:ρ' = [(("self":Str),Slot.val (.ref T.a)),(("node":Str),Slot.val (.py k.d))])
  (T':SS) (h1:Sorter S' T') (h2:T'.a = T.a) (h3:T'.rl = none) (h4:T'.out = T.out) (h5:T'.fin = T.fin) (h6:T'.nodes.length≤T.nodes.length + 1 + pre.length) (h7:∀ y∈T'.nodes,y.succ.length + ps.length≤800 + pre.length)
   (h8:T'.an = pre.foldl (fun g p=>linkG (ensureG g p) p k) (bumpG (ensureG T.an k) k ps.length))
theorem on_np {T:SS} {x:Nd} (hk:(T.nodes.map (·.key)).Nodup) (hx:x∈T.nodes) (j:Int):(T.on x.key fun y=>{ y with np:=x.np + j }).an = bumpG T.an x.key j:=by
 unfold SS.an SS.on bumpG
 rw [List.map_map,List.map_map]
 refine List.map_congr_left fun y hy=>?_
 simp only [Function.comp,Nd.an]
 by_cases q:y.key = x.key
 ·have:=key_inj hk hy hx q; subst this; simp
 ·simp [q]
theorem on_succ {T:SS} {x:Nd} (hk:(T.nodes.map (·.key)).Nodup) (hx:x∈T.nodes) (k:Ky):(T.on x.key fun y=>{ y with succ:=x.succ ++ [k] }).an = linkG T.an x.key k:=by
 unfold SS.an SS.on linkG
 rw [List.map_map,List.map_map]
 refine List.map_congr_left fun y hy=>?_
 simp only [Function.comp,Nd.an]
 by_cases q:y.key = x.key
 ·have:=key_inj hk hy hx q; subst this; simp
 ·simp [q]
theorem on_mem {T:SS} {k:Ky} {f:Nd→Nd} {y:Nd} (h:y∈(T.on k f).nodes):∃ z∈T.nodes,y = if z.key = k then f z else z:=by
 obtain ⟨z,hz,e⟩:=List.mem_map.mp h
 exact ⟨z,hz,e.symm⟩
section
variable {K:Kx} (H:Here K)
include H
theorem fn87:FnO K 87:=H.fo (by decide)
theorem meth80:MethF K 137 "_get_nodeinfo" 80:=meth_at H (by decide)
theorem getNp {S:Cs} {x:Nd} (h:NdOk S x):GetA K S x.ia "npredecessors" (.int x.np):=.slot (cls40 H) (slotNp H) h.info h.dict rfl rfl
theorem getSucc {S:Cs} {x:Nd} (h:NdOk S x):GetA K S x.ia "successors" (.ref x.sa):=.slot (cls40 H) (slotSucc H) h.info h.dict rfl rfl
theorem putNp {S:Cs} {x:Nd} {i:Int} (h:NdOk S x):PutA K S x.ia "npredecessors" (.int i) (S.put x.ia (.inst 40 x.da [.py x.key.d,.int i,.ref x.sa])) :=
 .slot (cls40 H) (slotNp H) (sl:=[.py x.key.d,.int x.np,.ref x.sa]) h.info h.dict (by simp) (by decide)
theorem add87 {n:Nat} {S:Cs} {T:SS} {k:Ky} {ps:List Ky} (h:Sorter S T) (hr:T.rl = none) (hl:T.nodes.length + ps.length≤800) (hs:∀ x∈T.nodes,x.succ.length + ps.length≤800) :
  WCall (n + 4) K (CR K) S (.ref 87) ([.ref T.a,.py k.d] ++ (ps.map Ky.d).map D.py) fun r S'=>r = .val .none∧∃ T',Sorter S' T'∧T'.a = T.a∧T'.rl = none∧T'.out = T.out∧T'.fin = T.fin∧T'.an = addG T.an k ps:=by
 refine wcall_sfn (ps:=["self", "node"]) (va:="predecessors") H (by decide) rfl rfl (by rw [List.length_map,sizeLine_eq]; dict_keeps) ?_ (by kernel_rfl) ?_
 ·intro qn vs rest
  revert vs
  refine len2 ?_
  intro v1 v2
  cases rest <;> kernel_rfl
 refine ws_cons (wx_if (wt_isnot (we_attr (a:=T.a) rfl (getRl H h) ?_)))
 rw [hr]
 refine ws_nil ?_
 refine ws_cons (wx_assign (WEX.no (wex_meth (a:=T.a) (C:=137) rfl (cls137 H) (meth80 H) (fn80 H) h.inst h.attrs rfl (wes_cons (we_name rfl (wes_nil ((get80 (k:=k) H h (by dict_keeps)).mono fun r S₁ hp0=>?_)))))))
 obtain ⟨x,T₁,h1,g1,e1⟩:=hp0
 subst e1
 obtain ⟨a1,a2,a3,a4,a5,a6⟩:=g1.an
 have hx1:=g1.2.1
 refine ws_cons (wx_iaddattr (a:=x.ia) rfl (getNp H (h1.nodes x hx1)) (we_call (H.gl _ _ rfl) (wrs_cons (we_name rfl (wrs_nil ⟨_,cv_lenT (by rw [List.length_map]; dict_keeps),_,_,rfl,putNp H (h1.nodes x hx1),?_⟩)).weak) (.b _)))
 have h2:=h1.setNp hx1 (x.np + ((ps.map Ky.d).length:Int))
 generalize S₁.put x.ia _ = S₂ at h2 ⊢
 have succ1:∀ y∈T₁.nodes,y.succ.length + ps.length≤800:=fun y hy=>by
  obtain ⟨_,_,⟨rfl,_⟩ | ⟨_,_,e5,rfl⟩⟩:=g1
  ·exact hs y hy
  ·rcases List.mem_append.mp hy with hy | hy
   ·exact hs y hy
   ·simp at hy; subst hy; rw [e5]; simp; dict_keeps
 have J0:AddJ T k ps [] [(("self":Str),Slot.val (.ref T.a)),(("node":Str),Slot.val (.py k.d))] S₂:=by
  refine ⟨rfl,_,h2,a2,a3.trans hr,a4,a5,?_,fun y hy=>?_,?_⟩
  ·simp [SS.on]; exact a6
  ·obtain ⟨z,hz,rfl⟩:=on_mem hy
   have:=succ1 z hz
   split <;> simpa using this
  ·rw [on_np h1.keys hx1,a1,g1.1]; simp
 refine ws_cons (wx_for ps (fun p=>.py p.d) (AddJ T k ps) .frz (by simp) (wi_tup (we_name rfl ⟨_,rfl,by simp,⟨_,?_,J0⟩,fun b q=>by cases q⟩)) ?_ ?_)
 ·exact SubL.sub ⟨rfl,rfl,trivial⟩
 ·rintro pre p post ρ₁ S₃ hl' ⟨hρ,T₃,h3,b1,b2,b3,b4,b5,b6,b7⟩
  subst hρ
  have hlen:pre.length + 1≤ps.length:=by rw [hl']; simp
  refine ⟨_,_,asg_name (by kernel_rfl),asgok_name,?_⟩
  have g:=get80 (n:=n) (k:=p) H h3 (by dict_keeps)
  rw [b1] at g
  refine ws_cons (wx_assign (WEX.no (wex_meth (a:=T.a) (C:=137) rfl (cls137 H) (meth80 H) (fn80 H) (b1 ▸ h3.inst) h3.attrs rfl (wes_cons (we_name rfl (wes_nil (g.mono fun r S₄ hp0=>?_)))))))
  obtain ⟨y,T₄,h4,g4,e4⟩:=hp0
  subst e4
  obtain ⟨c1,c2,c3,c4,c5,c6⟩:=g4.an
  have hy:=g4.2.1
  have ny:=h4.nodes y hy
  have succ4:∀ z∈T₄.nodes,z.succ.length + ps.length≤800 + pre.length:=fun z hz=>by
   obtain ⟨_,_,⟨rfl,_⟩ | ⟨_,_,e5,rfl⟩⟩:=g4
   ·exact b6 z hz
   ·rcases List.mem_append.mp hz with hz | hz
    ·exact b6 z hz
    ·simp at hz; subst hz; rw [e5]; simp; dict_keeps
  have ly:=succ4 y hy
  refine ws_cons (wx_expr (we_cmeth1 F.plainAttrs_list F.slot_list_append F.type_list_append (we_attr (a:=y.ia) rfl (getSucc H ny) ⟨y.sa,_,rfl,ny.succ,rfl,we_name rfl (op_append ny.succ (by simp [kyL]; dict_keeps) ⟨rfl,?_⟩)⟩)))
  have h5:=h4.setSucc hy (y.succ ++ [k])
  have e5:kyL (y.succ ++ [k]) = kyL y.succ ++ [.py k.d]:=by simp [kyL]
  rw [e5] at h5
  refine ws_nil ⟨_,SubL.sub (ρ₁:=[(("self":Str),Slot.val (.ref T.a)),(("node":Str),Slot.val (.py k.d))]) ⟨rfl,rfl,trivial⟩,rfl,_,h5,c2.trans b1,c3.trans b2,c4.trans b3,c5.trans b4,?_,fun z hz=>?_,?_⟩
  ·simp [SS.on]; dict_keeps
  ·obtain ⟨w,hw,rfl⟩:=on_mem hz
   have:=succ4 w hw
   split
   ·simp; dict_keeps
   ·simp; dict_keeps
  ·rw [on_succ h4.keys hy,c1,b7,g4.1,List.foldl_append]; rfl
 ·rintro ρ₁ S₃ ⟨hρ,T₃,h3,b1,b2,b3,b4,b5,b6,b7⟩
  exact ws_nil ⟨rfl,T₃,h3,b1,b2,b3,b4,b7⟩
end
section
variable {K:Kx} (H:Here K)
include H
end
section
variable {K:Kx} (H:Here K)
include H
end
set_option genInjectivity false in
structure Ab where
 an:List An
 rl:List Ky
 out:Int
 fin:Int
noncomputable def npOf (g:List An) (k:Ky):Option Int:=(g.find? fun x=>x.1 = k).map (·.2.1)
noncomputable def succOf (g:List An) (k:Ky):List Ky:=((g.find? fun x=>x.1 = k).map (·.2.2)).getD []
structure Holds (S:Cs) (T:SS) (r:Addr) (B:Ab):Prop where
 so:Sorter S T
 an:T.an = B.an
 rl:T.rl = some (r,B.rl)
 out:T.out = B.out
 fin:T.fin = B.fin
theorem npOf_nodes {k:Ky} {l:List Nd}:(∃ x∈l,x.key = k∧atK (l.map fun x=>(x.key,.ref x.ia)) k = some (.ref x.ia)∧npOf (l.map Nd.an) k = some x.np∧succOf (l.map Nd.an) k = x.succ)∨(k∉l.map (·.key)∧atK (l.map fun x=>(x.key,.ref x.ia)) k = none∧npOf (l.map Nd.an) k = none):=by
 induction l with
 | nil =>
  exact .inr ⟨by simp,rfl,rfl⟩
 | cons x l ih =>
  by_cases q:x.key = k
  ·exact .inl ⟨x,.head _,q,by simp [atK_cons,q],by simp [npOf,Nd.an,q],by simp [succOf,Nd.an,q]⟩
  ·rcases ih with ⟨y,h1,h2,h3,h4,h5⟩ | ⟨h1,h2,h3⟩
   ·refine .inl ⟨y,.tail _ h1,h2,by simp [atK_cons,q]; exact h3,?_,?_⟩
    ·rw [← h4]; simp [npOf,Nd.an,q]
    ·rw [← h5]; simp [succOf,Nd.an,q]
   ·refine .inr ⟨by simp only [List.map_cons,List.mem_cons,not_or]; exact ⟨fun z=>q z.symm,h1⟩,by simp [atK_cons,q]; exact h2,?_⟩
    rw [← h3]; simp [npOf,Nd.an,q]
noncomputable def shape (g:List An):List (Ky×List Ky):=g.map fun x=>(x.1,x.2.2)
theorem shape_bump (g:List An) (k:Ky) (j:Int):shape (bumpG g k j) = shape g:=by
 unfold shape bumpG; rw [List.map_map]; refine List.map_congr_left fun y o9=>?_
 simp only [Function.comp]; split <;> rfl
theorem shape_keys (g:List An):(shape g).map (·.1) = g.map (·.1):=by unfold shape; rw [List.map_map]; rfl
theorem succ_shape (g:List An) (k:Ky):succOf g k = (((shape g).find? fun x=>x.1 = k).map (·.2)).getD []:=by
 unfold succOf shape
 induction g with
 | nil=>rfl
 | cons x g ih =>
  by_cases q:x.1 = k
  ·simp [q]
  ·simp [q]; simpa using ih
noncomputable def Closed (g:List An):Prop:=∀ x∈g,∀ k∈x.2.2,k∈g.map (·.1)
theorem Closed.succ {g:List An} (h:Closed g) {k j:Ky} (hj:j∈succOf g k):j∈g.map (·.1):=by
 unfold succOf at hj
 cases q:g.find? fun x=>x.1 = k with
 | none=>rw [q] at hj; simp at hj
 | some x=>rw [q] at hj; exact h x (List.mem_of_find?_eq_some q) j (by simpa using hj)
noncomputable def Ky.ok (k:Ky):Prop:=k.small∧(reprK k).length≤1000
theorem Cs.put_comm (S:Cs) {a b:Addr} (c d:Cell) (h:a≠b):(S.put a c).put b d = (S.put b d).put a c:=by
 funext x; unfold Cs.put; split <;> split <;> first | rfl | (exfalso; simp_all)
theorem Cs.put_put (S:Cs) (a:Addr) (c d:Cell):(S.put a c).put a d = S.put a d:=by
 funext x; unfold Cs.put; split <;> rfl
theorem Cs.put_same (S:Cs) {a:Addr} {c:Cell} (h:S a = some c):S.put a c = S:=by
 funext x; unfold Cs.put; split
 ·subst x; exact h.symm
 ·rfl
section
variable {S:Cs} {T:SS} {sa:Addr} {l:List Ky} {o:Obj}
end
theorem one_le (d:PyData):[d].length≤sizeLine:=by rw [sizeLine_eq]; simp
theorem eqv_int (a b:Int):PyData.eqv (.int a) (.int b) = decide (a = b):=by
 simp only [PyData.eqv]; by_cases q:a = b <;> simp [q]
section
variable {K:Kx} (H:Here K)
include H
end
theorem nodup_le {α:Type} [DecidableEq α]:∀ {l m:List α},l.Nodup→(∀ x∈l,x∈m)→l.length≤m.length
 | [],m,_,_=>Nat.zero_le _
 | x :: l,m,hn,hs=>by
  have hx:x∈m:=hs x (.head _)
  have h1:=nodup_le (l:=l) (m:=m.erase x) (List.nodup_cons.mp hn).2 fun y hy=>by
   have:y≠x:=fun q=>(List.nodup_cons.mp hn).1 (q ▸ hy)
   exact (List.mem_erase_of_ne this).mpr (hs y (.tail _ hy))
  rw [List.length_erase_of_mem hx] at h1
  have:=List.length_pos_of_mem hx
  simp; (first | lia | omega)
abbrev Fst:=List (Ky×Nat)
noncomputable def popTo (g:Ky→List Ky):Fst→Option (Ky×Fst)
 | []=>none
 | (u,i) :: st=>match (g u)[i]? with
  | some w=>some (w,(u,i + 1) :: st)
  | none=>popTo g st
noncomputable def keysOf (st:Fst):List Ky:=st.map (·.1)
noncomputable def ringOf (st:Fst) (v:Ky):List Ky:=((keysOf st).reverse.drop ((keysOf st).reverse.findIdx (· == v))) ++ [v]
noncomputable def topR (seen:List Ky) (st:Fst) (v:Ky):List Ky×Fst:=if v∈seen then (seen,st) else (seen ++ [v],(v,0) :: st)
noncomputable def goR (seen:List Ky):Option (Ky×Fst)→Sum (Sum (List Ky) (List Ky)) (List Ky×Fst×Ky)
 | none=>.inl (.inr seen)
 | some p=>.inr (seen,p.2,p.1)
noncomputable def stepR (g:Ky→List Ky) (seen:List Ky) (st:Fst) (v:Ky):Sum (Sum (List Ky) (List Ky)) (List Ky×Fst×Ky) :=
 if v∈seen∧v∈keysOf st then .inl (.inl (ringOf st v)) else goR (topR seen st v).1 (popTo g (topR seen st v).2)
inductive Runs (g:Ky→List Ky):List Ky→Fst→Ky→Sum (List Ky) (List Ky)→Prop
 | stop {seen st v r} (e:stepR g seen st v = .inl r):Runs g seen st v r
 | go {seen st v p r} (e:stepR g seen st v = .inr p) (h:Runs g p.1 p.2.1 p.2.2 r):Runs g seen st v r
section
variable {g:Ky→List Ky} {seen:List Ky} {st:Fst} {v:Ky}
theorem stepR_in (h1:v∈seen) (h2:v∉keysOf st):stepR g seen st v = goR seen (popTo g st):=by
 unfold stepR topR; rw [if_neg fun q=>h2 q.2,if_pos h1]
theorem stepR_out (h1:v∉seen):stepR g seen st v = goR (seen ++ [v]) (popTo g ((v,0) :: st)):=by
 unfold stepR topR; rw [if_neg fun q=>h1 q.1,if_neg h1]
theorem Runs.ring (h1:v∈seen) (h2:v∈keysOf st):Runs g seen st v (.inl (ringOf st v)):=.stop (if_pos ⟨h1,h2⟩)
theorem Runs.end1 (h1:v∈seen) (h2:v∉keysOf st) (h3:popTo g st = none):Runs g seen st v (.inr seen):=.stop ((stepR_in h1 h2).trans (congrArg (goR seen) h3))
theorem Runs.go1 {w:Ky} {st':Fst} {r:Sum (List Ky) (List Ky)} (h1:v∈seen) (h2:v∉keysOf st) (h3:popTo g st = some (w,st')) (h:Runs g seen st' w r):Runs g seen st v r :=
 .go ((stepR_in h1 h2).trans (congrArg (goR seen) h3)) h
theorem Runs.end2 (h1:v∉seen) (h3:popTo g ((v,0) :: st) = none):Runs g seen st v (.inr (seen ++ [v])):=.stop ((stepR_out h1).trans (congrArg (goR (seen ++ [v])) h3))
theorem Runs.go2 {w:Ky} {st':Fst} {r:Sum (List Ky) (List Ky)} (h1:v∉seen) (h3:popTo g ((v,0) :: st) = some (w,st')) (h:Runs g (seen ++ [v]) st' w r):Runs g seen st v r :=
 .go ((stepR_out h1).trans (congrArg (goR (seen ++ [v])) h3)) h
theorem goR_some {s:List Ky} {o:Option (Ky×Fst)} {p:List Ky×Fst×Ky} (h:goR s o = .inr p):s = p.1∧o = some (p.2.2,p.2.1):=by
 cases o with
 | none=>exact nomatch h
 | some q=>cases h; exact ⟨rfl,rfl⟩
theorem goR_none {s:List Ky} {o:Option (Ky×Fst)} {p:List Ky} (h:goR s o = .inl (.inr p)):s = p∧o = none:=by
 cases o with
 | none=>cases h; exact ⟨rfl,rfl⟩
 | some q=>exact nomatch h
theorem stepR_go {p:List Ky×Fst×Ky} (h:stepR g seen st v = .inr p):¬ (v∈seen∧v∈keysOf st)∧(topR seen st v).1 = p.1∧popTo g (topR seen st v).2 = some (p.2.2,p.2.1):=by
 unfold stepR at h
 by_cases q:v∈seen∧v∈keysOf st
 ·rw [if_pos q] at h; exact nomatch h
 ·rw [if_neg q] at h; exact ⟨q,goR_some h⟩
theorem stepR_end {p:List Ky} (h:stepR g seen st v = .inl (.inr p)):¬ (v∈seen∧v∈keysOf st)∧(topR seen st v).1 = p∧popTo g (topR seen st v).2 = none:=by
 unfold stepR at h
 by_cases q:v∈seen∧v∈keysOf st
 ·rw [if_pos q] at h; exact nomatch h
 ·rw [if_neg q] at h; exact ⟨q,goR_none h⟩
theorem stepR_ring {p:List Ky} (h:stepR g seen st v = .inl (.inl p)):v∈keysOf st∧ringOf st v = p:=by
 unfold stepR at h
 by_cases q:v∈seen∧v∈keysOf st
 ·rw [if_pos q] at h; exact ⟨q.2,Sum.inl.inj (Sum.inl.inj h)⟩
 ·rw [if_neg q] at h
  generalize popTo g (topR seen st v).2 = o at h
  cases o with
  | none=>exact nomatch h
  | some _=>exact nomatch h
theorem topR_seen {k:Ky}:k∈(topR seen st v).1↔k∈seen∨k = v:=by
 unfold topR
 by_cases q:v∈seen
 ·rw [if_pos q]; exact ⟨.inl,fun z=>z.elim id fun z=>z ▸ q⟩
 ·rw [if_neg q]; exact List.mem_append.trans (or_congr Iff.rfl List.mem_singleton)
theorem topR_keys {k:Ky} (h:k∈keysOf (topR seen st v).2):k∈keysOf st∨k = v:=by
 unfold topR at h
 by_cases q:v∈seen
 ·rw [if_pos q] at h; exact .inl h
 ·rw [if_neg q] at h; exact (List.mem_cons.mp h).symm
theorem topR_all {F:List Ky} (hs:∀ k,k∈seen↔k∈F∨k∈keysOf st) (k:Ky):k∈(topR seen st v).1↔k∈F∨k∈keysOf (topR seen st v).2:=by
 unfold topR
 by_cases q:v∈seen
 ·rw [if_pos q]; exact hs k
 ·rw [if_neg q]; show k∈seen ++ [v]↔_∨k∈v :: keysOf st
  rw [List.mem_append,hs,List.mem_singleton,List.mem_cons,or_assoc,or_comm (a:=k∈keysOf st)]
theorem Runs.det {r r':Sum (List Ky) (List Ky)} (h:Runs g seen st v r):Runs g seen st v r'→r = r':=by
 induction h with
 | stop e =>
  intro h
  cases h with
  | stop q=>exact Sum.inl.inj (e.symm.trans q)
  | go q _=>exact nomatch e.symm.trans q
 | go e _ ih =>
  intro h
  cases h with
  | stop q=>exact nomatch e.symm.trans q
  | go q h=>exact ih (Sum.inr.inj (q.symm.trans e) ▸ h)
end
inductive Finds (g:Ky→List Ky):List Ky→List Ky→Option (List Ky)→Prop
 | nil {seen}:Finds g [] seen none
 | skip {v vs seen r}:v∈seen→Finds g vs seen r→Finds g (v :: vs) seen r
 | ring {v vs seen l}:v∉seen→Runs g seen [] v (.inl l)→Finds g (v :: vs) seen (some l)
 | done {v vs seen seen' r}:v∉seen→Runs g seen [] v (.inr seen')→Finds g vs seen' r→Finds g (v :: vs) seen r
theorem Finds.det {g:Ky→List Ky} {vs seen:List Ky} {r r':Option (List Ky)} (h:Finds g vs seen r):Finds g vs seen r'→r = r':=by
 induction h with
 | nil=>intro h; cases h; rfl
 | skip h1 h2 ih =>
  intro h
  cases h with
  | skip q q'=>exact ih q'
  | ring q _=>exact absurd h1 q
  | done q _ _=>exact absurd h1 q
 | ring h1 h2 =>
  intro h
  cases h with
  | skip q _=>exact absurd q h1
  | ring _ q=>exact congrArg some (Sum.inl.inj (h2.det q))
  | done _ q _=>exact nomatch h2.det q
 | done h1 h2 h3 ih =>
  intro h
  cases h with
  | skip q _=>exact absurd q h1
  | ring _ q=>exact nomatch h2.det q
  | done _ q q'=>exact ih (Sum.inr.inj (h2.det q) ▸ q')
noncomputable def todoN (g:Ky→List Ky):List Ky→List Ky→Nat
 | [],_=>0
 | v :: vs,seen=>(if v∈seen then 0 else (g v).length) + todoN g vs seen
noncomputable def leftN (g:Ky→List Ky):Fst→Nat
 | []=>0
 | (u,i) :: st=>((g u).length - i) + leftN g st
inductive Pops (g:Ky→List Ky):Fst→Ky→Fst→Prop
 | here {u i st w} (e:(g u)[i]? = some w):Pops g ((u,i) :: st) w ((u,i + 1) :: st)
 | next {u i st w st'} (h:Pops g st w st'):Pops g ((u,i) :: st) w st'
theorem pops {g:Ky→List Ky} {st st':Fst} {w:Ky} (h:popTo g st = some (w,st')):Pops g st w st':=by
 induction st with
 | nil=>exact nomatch h
 | cons p st ih =>
  obtain ⟨u,i⟩:=p
  have h:(match (g u)[i]? with | some w=>some (w,(u,i + 1) :: st) | none=>popTo g st) = some (w,st'):=h
  cases e:(g u)[i]? with
  | some x=>rw [e] at h; cases h; exact .here e
  | none=>rw [e] at h; exact .next (ih h)
set_option tactic.hygienic true in
theorem popTo_left {g:Ky→List Ky} {st st':Fst} {w:Ky} (h:popTo g st = some (w,st')):leftN g st' < leftN g st:=by
 replace h:=pops h
 induction h with
 | here e=>exact Nat.add_lt_add_right (Nat.sub_succ_lt_self _ _ (List.getElem?_eq_some_iff.mp e).1) _
 | next _ ih=>exact Nat.lt_of_lt_of_le ih (Nat.le_add_left _ _)
theorem todoN_cons {g:Ky→List Ky} {v:Ky} {vs seen:List Ky}:todoN g (v :: vs) seen = (if v∈seen then 0 else (g v).length) + todoN g vs seen:=rfl
theorem todo_not {g:Ky→List Ky} {v:Ky} {seen:List Ky} {vs:List Ky}:v∉vs→todoN g vs (seen ++ [v]) = todoN g vs seen:=by
 induction vs with
 | nil =>
  rintro o9
  exact rfl
 | cons u vs ih =>
  rintro h
  have:¬ u = v:=fun q=>h (q ▸ .head _)
  have ih:=ih fun q=>h (.tail _ q)
  simp only [todoN_cons,ih,List.mem_append,List.mem_singleton,this,or_false]
set_option tactic.hygienic true in
theorem todo_add {g:Ky→List Ky} {v:Ky} {seen:List Ky} (hs:v∉seen) {vs:List Ky}:vs.Nodup→v∈vs→todoN g vs (seen ++ [v]) + (g v).length = todoN g vs seen:=by
 induction vs with
 | nil=>intros; rename_i hzz; exact nomatch hzz
 | cons u vs ih =>
  rintro hn h
  have hn':=List.nodup_cons.mp hn
  rcases List.mem_cons.mp h with q | q
  ·subst q
   simp only [todoN_cons,todo_not hn'.1,List.mem_append,List.mem_singleton,or_true,if_true,hs,if_false]
   (first | lia | omega)
  ·have ih:=ih hn'.2 q
   have:¬ u = v:=fun z=>hn'.1 (z ▸ q)
   simp only [todoN_cons,List.mem_append,List.mem_singleton,this,or_false]
   (first | lia | omega)
set_option tactic.hygienic true in
theorem popTo_mem {g:Ky→List Ky} {st st':Fst} {w:Ky} (h:popTo g st = some (w,st')):∀ k∈keysOf st',k∈keysOf st:=by
 replace h:=pops h
 induction h with
 | here e=>exact fun o9 h=>h
 | next _ ih=>exact fun k hk=>.tail _ (ih k hk)
set_option genInjectivity false in
structure Pl where
 k:Ky
 i:Nat
 m:Addr
 I:Addr
noncomputable def Pl.f (x:Pl):Ky×Nat:=(x.k,x.i)
noncomputable def mapOf:List Pl→List (Ky×D)
 | []=>[]
 | x :: es=>mapOf es ++ [(x.k,.int es.length)]
theorem mapOf_cons {x:Pl} {es:List Pl}:mapOf (x :: es) = mapOf es ++ [(x.k,.int es.length)]:=rfl
theorem mapOf_keys:∀ es:List Pl,(mapOf es).map (·.1) = (es.map (·.k)).reverse
 | []=>rfl
 | x :: es=>by simp [mapOf_cons,mapOf_keys es]
theorem mapOf_len:∀ es:List Pl,(mapOf es).length = es.length
 | []=>rfl
 | x :: es=>by simp [mapOf_cons,mapOf_len es]
theorem putK_new {k:Ky} {d:D} {l:List (Ky×D)}:k∉l.map (·.1)→putK l k d = l ++ [(k,d)]:=by
 induction l with
 | nil =>
  rintro o9
  exact rfl
 | cons hdz l ih =>
  obtain ⟨j,e⟩:=hdz
  rintro h
  simp only [List.map_cons,List.mem_cons,not_or] at h
  rw [putK_cons,if_neg (fun q=>h.1 q.symm),ih h.2]; rfl
theorem delK_last {k:Ky} {d:D} {l:List (Ky×D)} (h:k∉l.map (·.1)):delK (l ++ [(k,d)]) k = l:=by
 unfold delK
 rw [List.filter_append,List.filter_eq_self.mpr]
 ·simp
 ·intro x hx
  simp only [ne_eq,decide_eq_true_eq]
  exact fun q=>h (q ▸ List.mem_map.mpr ⟨x,hx,rfl⟩)
theorem atK_none {k:Ky} {l:List (Ky×D)}:k∉l.map (·.1)→atK l k = none:=by
 induction l with
 | nil =>
  rintro o9
  exact rfl
 | cons hdz l ih =>
  obtain ⟨j,e⟩:=hdz
  rintro h
  simp only [List.map_cons,List.mem_cons,not_or] at h
  rw [atK_cons,if_neg (fun q=>h.1 q.symm)]; exact ih h.2
theorem atK_app {k:Ky} {d:D} {l r:List (Ky×D)}:atK l k = some d→atK (l ++ r) k = some d:=by
 induction l with
 | nil=>exact fun h=>dNS h
 | cons y l ih =>
  rw [List.cons_append,atK_cons,atK_cons]
  by_cases q:y.1 = k
  ·rw [if_pos q,if_pos q]; exact id
  ·rw [if_neg q,if_neg q]; exact ih
theorem atK_last {k:Ky} {d:D} {l:List (Ky×D)}:k∉l.map (·.1)→atK (l ++ [(k,d)]) k = some d:=by
 induction l with
 | nil =>
  exact fun o9=>if_pos rfl
 | cons hdz l ih =>
  obtain ⟨j,e⟩:=hdz
  rintro h
  simp only [List.map_cons,List.mem_cons,not_or] at h
  rw [List.cons_append,atK_cons,if_neg (fun q=>h.1 q.symm)]; exact ih h.2
theorem findIdx_app {l:List Ky} {v:Ky} (h:v∈l) (r:List Ky):(l ++ r).findIdx (· == v) = l.findIdx (· == v):=by
 rw [List.findIdx_append,if_pos]
 exact List.findIdx_lt_length_of_exists ⟨v,h,by simp⟩
theorem findIdx_new {l:List Ky} {v:Ky} (h:v∉l):(l ++ [v]).findIdx (· == v) = l.length:=by
 rw [List.findIdx_append,if_neg]
 ·simp [List.findIdx_cons]
 ·rw [List.findIdx_eq_length.mpr]
  ·exact Nat.lt_irrefl _
  ·intro x hx; simp; exact fun q=>h (q ▸ hx)
set_option tactic.hygienic true in
theorem atK_map {v:Ky} {es:List Pl}:(es.map (·.k)).Nodup→v∈es.map (·.k)→atK (mapOf es) v = some (.int (((es.map (·.k)).reverse.findIdx (· == v):Nat):Int)):=by
 induction es with
 | nil=>intros; rename_i hzz; exact nomatch hzz
 | cons x es ih =>
  rintro hn h
  have hn':=List.nodup_cons.mp hn
  simp only [List.map_cons,List.reverse_cons,mapOf_cons]
  rcases List.mem_cons.mp h with q | q
  ·subst q
   have nk:x.k∉(mapOf es).map (·.1):=by rw [mapOf_keys]; simpa using hn'.1
   rw [atK_last nk,findIdx_new (by simpa using hn'.1)]
   simp
  ·have ih:=ih hn'.2 q
   rw [atK_app ih,findIdx_app (by simpa using q)]
structure FC (S₀:Cs) (sucAt:Ky→Addr) (ka ia sa ma:Addr) (seen:List Ky) (es:List Pl) (S:Cs):Prop where
 ext:∀ b,S₀ b≠none→S b = S₀ b
 stk:S ka = some (.lst (kyL (es.map (·.k)).reverse))
 its:S ia = some (.lst (es.map fun x=>D.ref x.m).reverse)
 see:S sa = some (.set seen)
 map:S ma = some (.map (mapOf es))
 nk:S₀ ka = none
 ni:S₀ ia = none
 ns:S₀ sa = none
 nm:S₀ ma = none
 ki:ka≠ia
 met:∀ x∈es,S x.m = some (.raw (nextObj x.I))∧S₀ x.m = none
 itr:∀ x∈es,S x.I = some (.raw (iterObj (sucAt x.k) x.i))∧S₀ x.I = none
 dI:(es.map (·.I)).Nodup
 nd:(es.map (·.k)).Nodup
 sub:∀ x∈es,x.k∈seen
 snd:seen.Nodup
section
variable {S₀:Cs} {sucAt:Ky→Addr} {ka ia sa ma:Addr} {seen:List Ky} {es:List Pl} {S:Cs}
theorem FC.get (h:FC S₀ sucAt ka ia sa ma seen es S) {b:Addr} {c:Cell} (e:S₀ b = some c):S b = some c:=by rw [h.ext b (by rw [e]; exact fun z=>by cases z)]; exact e
theorem FC.push (h:FC S₀ sucAt ka ia sa ma seen es S) {v:Ky} {I m:Addr} (hI:S I = none) (hm:S m = none) (hne:m≠I) (hv:v∉seen) :
  FC S₀ sucAt ka ia sa ma (seen ++ [v]) (⟨v,0,m,I⟩ :: es) (((((((S.put sa (.set (seen ++ [v]))).put I (.raw (iterObj (sucAt v) 0))).put m (.raw (nextObj I))).put ia (.lst ((es.map fun x=>D.ref x.m).reverse ++ [.ref m]))).put ma (.map (putK (mapOf es) v (.int es.length)))).put ka (.lst (kyL (es.map (·.k)).reverse ++ [.py v.d])))):=by
 have vk:v∉es.map (·.k):=fun q=>by obtain ⟨x,hx,e⟩:=List.mem_map.mp q; exact hv (e ▸ h.sub x hx)
 have n1:∀ {b c},S b = some c→b≠I:=fun e q=>by rw [q,hI] at e; (first | exact dNS e | exact dSN e | (obtain rfl:=Option.some.inj e) | cases e)
 have n2:∀ {b c},S b = some c→b≠m:=fun e q=>by rw [q,hm] at e; (first | exact dNS e | exact dSN e | (obtain rfl:=Option.some.inj e) | cases e)
 have ne:∀ {a b c d},S a = some c→S b = some d→c≠d→a≠b:=fun ea eb hc q=>by rw [q,eb] at ea; exact hc (Option.some.inj ea).symm
 have six:∀ b,b≠ka→b≠ma→b≠ia→b≠m→b≠I→b≠sa→(((((((S.put sa (.set (seen ++ [v]))).put I (.raw (iterObj (sucAt v) 0))).put m (.raw (nextObj I))).put ia (.lst ((es.map fun x=>D.ref x.m).reverse ++ [.ref m]))).put ma (.map (putK (mapOf es) v (.int es.length)))).put ka (.lst (kyL (es.map (·.k)).reverse ++ [.py v.d])))) b = S b:=fun b h1 h2 h3 h4 h5 h6=>by
  rw [Cs.put_ne _ _ h1,Cs.put_ne _ _ h2,Cs.put_ne _ _ h3,Cs.put_ne _ _ h4,Cs.put_ne _ _ h5,Cs.put_ne _ _ h6]
 have kaI:=n1 h.stk; have kam:=n2 h.stk
 have iaI:=n1 h.its; have iam:=n2 h.its
 have saI:=n1 h.see; have sam:=n2 h.see
 have maI:=n1 h.map; have mam:=n2 h.map
 have kama:ka≠ma:=ne h.stk h.map (by simp)
 have kasa:ka≠sa:=ne h.stk h.see (by simp)
 have iama:ia≠ma:=ne h.its h.map (by simp)
 have iasa:ia≠sa:=ne h.its h.see (by simp)
 have sama:sa≠ma:=ne h.see h.map (by simp)
 have z0:∀ b c,S b = some c→S₀ b = none→S₀ b = none:=fun o9 o9 o9 e=>e
 have mI:S₀ I = none:=by
  cases e:S₀ I with
  | none=>rfl
  | some c=>rw [h.get e] at hI; (first | exact dNS hI | exact dSN hI | (obtain rfl:=Option.some.inj hI) | cases hI)
 have mm:S₀ m = none:=by
  cases e:S₀ m with
  | none=>rfl
  | some c=>rw [h.get e] at hm; (first | exact dNS hm | exact dSN hm | (obtain rfl:=Option.some.inj hm) | cases hm)
 refine ⟨fun b hb=>?_,?_,?_,?_,?_,h.nk,h.ni,h.ns,h.nm,h.ki,fun x hx=>?_,fun x hx=>?_,?_,?_,fun x hx=>?_,?_⟩
 ·rw [six b (fun q=>hb (q ▸ h.nk)) (fun q=>hb (q ▸ h.nm)) (fun q=>hb (q ▸ h.ni)) (fun q=>hb (q ▸ mm)) (fun q=>hb (q ▸ mI)) (fun q=>hb (q ▸ h.ns)),h.ext b hb]
 ·rw [Cs.put_self]; simp [kyL]
 ·rw [Cs.put_ne _ _ h.ki.symm,Cs.put_ne _ _ iama,Cs.put_self]; simp
 ·rw [Cs.put_ne _ _ kasa.symm,Cs.put_ne _ _ sama,Cs.put_ne _ _ iasa.symm,Cs.put_ne _ _ sam,Cs.put_ne _ _ saI,Cs.put_self]
 ·rw [Cs.put_ne _ _ kama.symm,Cs.put_self,putK_new (by rw [mapOf_keys]; simpa using vk)]; rfl
 ·rcases List.mem_cons.mp hx with q | hx
  ·subst q
   refine ⟨?_,mm⟩
   show _ = some (Cell.raw (nextObj I))
   rw [Cs.put_ne _ _ kam.symm,Cs.put_ne _ _ mam.symm,Cs.put_ne _ _ iam.symm,Cs.put_self]
  ·obtain ⟨e1,e2⟩:=h.met x hx
   exact ⟨by rw [six _ (ne e1 h.stk (by simp)) (ne e1 h.map (by simp)) (ne e1 h.its (by simp)) (n2 e1) (n1 e1) (ne e1 h.see (by simp))]; exact e1,e2⟩
 ·rcases List.mem_cons.mp hx with q | hx
  ·subst q
   refine ⟨?_,mI⟩
   show _ = some (Cell.raw (iterObj (sucAt v) 0))
   rw [Cs.put_ne _ _ kaI.symm,Cs.put_ne _ _ maI.symm,Cs.put_ne _ _ iaI.symm,Cs.put_ne _ _ hne.symm,Cs.put_self]
  ·obtain ⟨e1,e2⟩:=h.itr x hx
   exact ⟨by rw [six _ (ne e1 h.stk (by simp)) (ne e1 h.map (by simp)) (ne e1 h.its (by simp)) (n2 e1) (n1 e1) (ne e1 h.see (by simp))]; exact e1,e2⟩
 ·refine List.nodup_cons.mpr ⟨fun q=>?_,h.dI⟩
  obtain ⟨x,hx,e⟩:=List.mem_map.mp q
  exact n1 (h.itr x hx).1 e
 ·exact List.nodup_cons.mpr ⟨vk,h.nd⟩
 ·rcases List.mem_cons.mp hx with q | hx
  ·subst q; simp
  ·exact List.mem_append_left _ (h.sub x hx)
 ·exact List.nodup_append.mpr ⟨h.snd,by simp,fun a ha b hb e=>hv (by simp at hb; rw [← hb,← e]; exact ha)⟩
theorem FC.next {x:Pl} {j:Nat} (h:FC S₀ sucAt ka ia sa ma seen (x :: es) S):FC S₀ sucAt ka ia sa ma seen ({ x with i:=j } :: es) (S.put x.I (.raw (iterObj (sucAt x.k) j))):=by
 obtain ⟨xi,x0⟩:=h.itr x (.head _)
 have ne:∀ {b c},S b = some c→(∀ la i,c≠.raw (iterObj la i))→b≠x.I:=fun e hc q=>by rw [q,xi] at e; exact hc _ _ (Option.some.inj e).symm
 have hd:=List.nodup_cons.mp h.dI
 refine ⟨fun b hb=>?_,?_,?_,?_,?_,h.nk,h.ni,h.ns,h.nm,h.ki,fun y hy=>?_,fun y hy=>?_,h.dI,h.nd,fun y hy=>?_,h.snd⟩
 ·rw [Cs.put_ne _ _ (show b≠x.I from fun q=>hb (q ▸ x0)),h.ext b hb]
 ·rw [Cs.put_ne _ _ (ne h.stk (by simp))]; exact h.stk
 ·rw [Cs.put_ne _ _ (ne h.its (by simp))]; exact h.its
 ·rw [Cs.put_ne _ _ (ne h.see (by simp))]; exact h.see
 ·rw [Cs.put_ne _ _ (ne h.map (by simp))]; exact h.map
 ·have hy':∃ z∈x :: es,z.m = y.m∧z.I = y.I:=by
   rcases List.mem_cons.mp hy with q | q
   ·exact ⟨x,.head _,by rw [q],by rw [q]⟩
   ·exact ⟨y,.tail _ q,rfl,rfl⟩
  obtain ⟨z,hz,e1,e2⟩:=hy'
  obtain ⟨q1,q2⟩:=h.met z hz
  rw [← e1,← e2]
  exact ⟨by rw [Cs.put_ne _ _ (ne q1 (by simp [nextObj,iterObj]))]; exact q1,q2⟩
 ·rcases List.mem_cons.mp hy with q | q
  ·subst q; exact ⟨Cs.put_self ..,x0⟩
  ·obtain ⟨q1,q2⟩:=h.itr y (.tail _ q)
   exact ⟨by rw [Cs.put_ne _ _ (fun z=>hd.1 (List.mem_map.mpr ⟨y,q,z⟩))]; exact q1,q2⟩
 ·rcases List.mem_cons.mp hy with q | q
  ·subst q; exact h.sub x (.head _)
  ·exact h.sub y (.tail _ q)
theorem FC.pop {x:Pl} (h:FC S₀ sucAt ka ia sa ma seen (x :: es) S):FC S₀ sucAt ka ia sa ma seen es ((((S.put x.I (.raw (iterEnd x.i))).put ka (.lst (kyL (es.map (·.k)).reverse))).put ma (.map (delK (mapOf (x :: es)) x.k))).put ia (.lst (es.map fun x=>D.ref x.m).reverse)):=by
 obtain ⟨xi,x0⟩:=h.itr x (.head _)
 have ne:∀ {b c},S b = some c→(∀ la i,c≠.raw (iterObj la i))→b≠x.I:=fun e hc q=>by rw [q,xi] at e; exact hc _ _ (Option.some.inj e).symm
 have ne2:∀ {a b c d},S a = some c→S b = some d→c≠d→a≠b:=fun ea eb hc q=>by rw [q,eb] at ea; exact hc (Option.some.inj ea).symm
 have hd:=List.nodup_cons.mp h.dI
 have hk:=List.nodup_cons.mp h.nd
 have kama:ka≠ma:=ne2 h.stk h.map (by simp)
 have iama:ia≠ma:=ne2 h.its h.map (by simp)
 have kaI:=ne h.stk (by simp)
 have iaI:=ne h.its (by simp)
 have maI:=ne h.map (by simp)
 have saI:=ne h.see (by simp)
 have four:∀ b,b≠ia→b≠ma→b≠ka→b≠x.I→((((S.put x.I (.raw (iterEnd x.i))).put ka (.lst (kyL (es.map (·.k)).reverse))).put ma (.map (delK (mapOf (x :: es)) x.k))).put ia (.lst (es.map fun x=>D.ref x.m).reverse)) b = S b:=fun b h1 h2 h3 h4=>by
  rw [Cs.put_ne _ _ h1,Cs.put_ne _ _ h2,Cs.put_ne _ _ h3,Cs.put_ne _ _ h4]
 refine ⟨fun b hb=>?_,?_,?_,?_,?_,h.nk,h.ni,h.ns,h.nm,h.ki,fun y hy=>?_,fun y hy=>?_,hd.2,hk.2,fun y hy=>h.sub y (.tail _ hy),h.snd⟩
 ·rw [four b (fun q=>hb (q ▸ h.ni)) (fun q=>hb (q ▸ h.nm)) (fun q=>hb (q ▸ h.nk)) (fun q=>hb (q ▸ x0)),h.ext b hb]
 ·rw [Cs.put_ne _ _ h.ki,Cs.put_ne _ _ kama,Cs.put_self]
 ·rw [Cs.put_self]
 ·rw [four _ (ne2 h.see h.its (by simp)) (ne2 h.see h.map (by simp)) (ne2 h.see h.stk (by simp)) saI]; exact h.see
 ·rw [Cs.put_ne _ _ iama.symm,Cs.put_self]
  show some (Cell.map (delK (mapOf es ++ [(x.k,.int es.length)]) x.k)) = some (Cell.map (mapOf es))
  rw [delK_last (by rw [mapOf_keys]; simpa using hk.1)]
 ·obtain ⟨q1,q2⟩:=h.met y (.tail _ hy)
  exact ⟨by rw [four _ (ne2 q1 h.its (by simp)) (ne2 q1 h.map (by simp)) (ne2 q1 h.stk (by simp)) (ne q1 (by simp [nextObj,iterObj]))]; exact q1,q2⟩
 ·obtain ⟨q1,q2⟩:=h.itr y (.tail _ hy)
  exact ⟨by rw [four _ (ne2 q1 h.its (by simp)) (ne2 q1 h.map (by simp)) (ne2 q1 h.stk (by simp)) (fun z=>hd.1 (List.mem_map.mpr ⟨y,hy,z⟩))]; exact q1,q2⟩
end
section
variable {n:Nat} {K:Kx} {R:Rsc} {sc:Scope} {ρ:Rho} {S:R.σ}
theorem WX.mono {st:Stmt} {Q Q':Fl→Rho→R.σ→Prop} (h:WX n K R sc ρ S st Q) (hq:∀ f r t,Q f r t→Q' f r t):WX n K R sc ρ S st Q':=fun A G env Φ s ok hm I =>
 wpAny_mono (h A G env Φ s ok hm I) (fun f s' hp0=>by obtain ⟨Φ',ρ',S',fl,a,b,q⟩:=hp0; exact ⟨Φ',ρ',S',fl,a,b,hq _ _ _ q⟩) fun e s' x=>x.mono fun o9 o9 o9 o9 q=>hq _ _ _ q
noncomputable def CutQ (Mid:Rho→R.σ→Prop) (Q:Fl→Rho→R.σ→Prop):Fl→Rho→R.σ→Prop
 | .next,ρ',S'=>Mid ρ' S'
 | fl,ρ',S'=>Q fl ρ' S'
theorem ws_cut {st:Stmt} {rest:List Stmt} {Q:Fl→Rho→R.σ→Prop} (Mid:Rho→R.σ→Prop) (h:WX n K R sc ρ S st (CutQ Mid Q)) (k:∀ ρ' S',Mid ρ' S'→WS n K R sc ρ' S' rest Q):WS n K R sc ρ S (st :: rest) Q :=
 ws_cons (h.mono fun f r t q=>by
  cases f with
  | next=>exact k _ _ q
  | _=>exact q)
end
noncomputable def rho127 (a nd ka ia sa ma:Addr) (v:Ky):Rho:=[(("self":Str),Slot.val (.ref a)),(("n2i":Str),Slot.val (.ref nd)),(("stack":Str),Slot.val (.ref ka)),(("itstack":Str),Slot.val (.ref ia)),(("seen":Str),Slot.val (.ref sa)),(("node2stacki":Str),Slot.val (.ref ma)),(("node":Str),Slot.val (.py v.d))]
noncomputable def rho127' (a nd ka ia sa ma:Addr):Rho:=[(("self":Str),Slot.val (.ref a)),(("n2i":Str),Slot.val (.ref nd)),(("stack":Str),Slot.val (.ref ka)),(("itstack":Str),Slot.val (.ref ia)),(("seen":Str),Slot.val (.ref sa)),(("node2stacki":Str),Slot.val (.ref ma))]
structure F0 (K:Kx) (S₀:Cs) (T:SS) (sucAt:Ky→Addr):Prop where
 nd:PinMap K S₀ T.nd (T.nodes.map fun x=>(x.key,.ref x.ia))
 info:∀ x∈T.nodes,S₀ x.ia = some (.inst 40 x.da [.py x.key.d,.int x.np,.ref x.sa])
 dict:∀ x∈T.nodes,S₀ x.da = some (.attrs [])
 succ:∀ x∈T.nodes,S₀ x.sa = some (.lst (kyL x.succ))
 at_:∀ x∈T.nodes,sucAt x.key = x.sa
 keys:(T.nodes.map (·.key)).Nodup
noncomputable def fs (es:List Pl):Fst:=es.map Pl.f
theorem fs_keys (es:List Pl):keysOf (fs es) = es.map (·.k):=by unfold keysOf fs; rw [List.map_map]; rfl
inductive LongJ (g:Ky→List Ky) (V:List Ky) (S₀:Cs) (sucAt:Ky→Addr) (a nd ka ia sa ma:Addr) (seen0:List Ky) (v0:Ky) (k:Nat) (ρ':Rho) (S':Cs):Prop
 | mk (seen:List Ky) (es:List Pl) (v:Ky) (h1:ρ' = rho127 a nd ka ia sa ma v) (h2:FC S₀ sucAt ka ia sa ma seen es S') (h3:v∈V) (h4:∀ x∈seen,x∈V) (h5:k = todoN g V seen + leftN g (fs es)) (h6:∀ r,Runs g seen (fs es) v r→Runs g seen0 [] v0 r)
inductive MidJ (g:Ky→List Ky) (V:List Ky) (S₀:Cs) (sucAt:Ky→Addr) (a nd ka ia sa ma:Addr) (seen0:List Ky) (v0:Ky) (k:Nat) (ρ':Rho) (S':Cs):Prop
 | mk (seen:List Ky) (es:List Pl) (h1:Sub (rho127' a nd ka ia sa ma) ρ') (h2:FC S₀ sucAt ka ia sa ma seen es S') (h3:∀ x∈seen,x∈V) (h4:todoN g V seen + leftN g (fs es)≤k)
  (h5:∀ w st',popTo g (fs es) = some (w,st')→∀ r,Runs g seen st' w r→Runs g seen0 [] v0 r) (h6:popTo g (fs es) = none→Runs g seen0 [] v0 (.inr seen))
inductive ShortJ (g:Ky→List Ky) (S₀:Cs) (sucAt:Ky→Addr) (a nd ka ia sa ma:Addr) (seen:List Ky) (st:Fst) (k:Nat) (ρ':Rho) (S':Cs):Prop
 | mk (es:List Pl) (h1:ρ' = rho127' a nd ka ia sa ma) (h2:FC S₀ sucAt ka ia sa ma seen es S') (h3:k = es.length) (h4:popTo g (fs es) = popTo g st)
inductive WideJ (g:Ky→List Ky) (V:List Ky) (S₀:Cs) (sucAt:Ky→Addr) (a nd ka ia sa ma:Addr) (pre:List Ky) (ρ':Rho) (S':Cs):Prop
 | mk (seen post:List Ky) (h1:ρ' = rho127' a nd ka ia sa ma) (h2:FC S₀ sucAt ka ia sa ma seen [] S') (h3:∀ x∈seen,x∈V) (h4:V = pre ++ post) (h5:∀ r,Finds g post seen r→Finds g V [] r)
section
variable {K:Kx} (H:Here K)
include H
theorem fn127:FnO K 127:=H.fo (by decide)
set_option tactic.hygienic true in
theorem find127 {n:Nat} {S:Cs} {T:SS} (h:Sorter S T) (hc:Closed T.an) (hl:T.nodes.length≤900) :
  WCall (n + 3) K (CR K) S (.ref 127) [.ref T.a] fun q S'=>Sorter S' T∧∃ r,Finds (succOf T.an) (T.nodes.map (·.key)) [] r∧q = match r with | none=>Ret.val .none | some l=>.new (l.map Ky.d):=by
 refine wcall_fn (ps:=["self"]) H (by decide) rfl rfl ?_ (by kernel_rfl) ?_
 ·intro qn
  refine len1 ?_
  intro v1
  kernel_rfl
 refine ws_cons (wx_assign (we_attr (a:=T.a) rfl (getN2i H h) ?_))
 refine ws_cons (wx_assign (we_adopt (wf_list (wes_nil ⟨[],rfl,by decide,fun ka hka=>?_⟩))))
 refine ws_cons (wx_assign (we_adopt (wf_list (wes_nil ⟨[],rfl,by decide,fun ia hia=>?_⟩))))
 refine ws_cons (wx_assign (we_set0 (H.gl _ _ rfl) fun sa hsa=>?_))
 refine ws_cons (wx_assign (we_dict fun ma hma=>?_))
 have kn:S ka = none:=hka
 have ik:ia≠ka:=fun q=>by rw [q,Cs.put_self] at hia; (first | exact dNS hia | exact dSN hia | (obtain rfl:=Option.some.inj hia) | cases hia)
 have inn:S ia = none:=by rw [Cs.put_ne _ _ ik] at hia; exact hia
 have si:sa≠ia:=fun q=>by rw [q,Cs.put_self] at hsa; (first | exact dNS hsa | exact dSN hsa | (obtain rfl:=Option.some.inj hsa) | cases hsa)
 have hsa:=(Cs.put_ne _ _ si).symm.trans hsa
 have sk:sa≠ka:=fun q=>by rw [q,Cs.put_self] at hsa; (first | exact dNS hsa | exact dSN hsa | (obtain rfl:=Option.some.inj hsa) | cases hsa)
 have snn:S sa = none:=(Cs.put_ne _ _ sk).symm.trans hsa
 have ms:ma≠sa:=fun q=>by rw [q,Cs.put_self] at hma; (first | exact dNS hma | exact dSN hma | (obtain rfl:=Option.some.inj hma) | cases hma)
 have hma:=(Cs.put_ne _ _ ms).symm.trans hma
 have mi:ma≠ia:=fun q=>by rw [q,Cs.put_self] at hma; (first | exact dNS hma | exact dSN hma | (obtain rfl:=Option.some.inj hma) | cases hma)
 have hma:=(Cs.put_ne _ _ mi).symm.trans hma
 have mk:ma≠ka:=fun q=>by rw [q,Cs.put_self] at hma; (first | exact dNS hma | exact dSN hma | (obtain rfl:=Option.some.inj hma) | cases hma)
 have mnn:S ma = none:=(Cs.put_ne _ _ mk).symm.trans hma
 have nin:∀ b,S b = none→T.nd≠b:=fun b hb q=>by rw [← q,h.map] at hb; (first | exact dNS hb | exact dSN hb | (obtain rfl:=Option.some.inj hb) | cases hb)
 have hmap:((((S.put ka (.lst [])).put ia (.lst [])).put sa (.set [])).put ma (.map [])) T.nd = some (.map (T.nodes.map fun x=>(x.key,.ref x.ia))):=by
  rw [Cs.put_ne _ _ (nin _ mnn),Cs.put_ne _ _ (nin _ snn),Cs.put_ne _ _ (nin _ inn),Cs.put_ne _ _ (nin _ kn)]; exact h.map
 refine ws_pinmap hmap (fun x hx=>by obtain ⟨y,_,rfl⟩:=List.mem_map.mp hx; rfl) fun o nsys ho=>?_
 obtain ⟨sucAt,hsuc⟩:∃ f:Ky→Addr,∀ x∈T.nodes,f x.key = x.sa:=by
  refine ⟨fun k=>((T.nodes.find? fun x=>x.key = k).map (·.sa)).getD 0,fun x hx=>?_⟩
  cases e:T.nodes.find? fun y=>y.key = x.key with
  | none=>have:=List.find?_eq_none.mp e x hx; simp at this
  | some y =>
   have h1:=List.mem_of_find?_eq_some e
   have h2:=List.find?_some e
   have:=key_inj h.keys h1 hx (by simpa using h2)
   simp [e,this]
 generalize hS₀:S.put T.nd (.raw o) = S₀
 have S₀nd:S₀ T.nd = some (.raw o):=hS₀ ▸ Cs.put_self ..
 have S₀b:∀ {b c},S b = some c→(∀ l,c≠.map l)→S₀ b = some c:=fun {b c} e hc=>by
  have:b≠T.nd:=fun q=>by rw [q,h.map] at e; exact hc _ (Option.some.inj e).symm
  rw [← hS₀,Cs.put_ne _ _ this]; exact e
 have S₀n:∀ b,S b = none→S₀ b = none:=fun b hb=>by rw [← hS₀,Cs.put_ne _ _ (nin b hb).symm]; exact hb
 have F0':F0 K S₀ T sucAt:=⟨⟨nsys,o,S₀nd,ho⟩,fun x hx=>S₀b (h.nodes x hx).info (by simp),fun x hx=>S₀b (h.nodes x hx).dict (by simp),fun x hx=>S₀b (h.nodes x hx).succ (by simp),hsuc,h.keys⟩
 have C0:FC S₀ sucAt ka ia sa ma [] [] (((((S.put ka (.lst [])).put ia (.lst [])).put sa (.set [])).put ma (.map [])).put T.nd (.raw o)):=by
  refine ⟨fun b hb=>?_,?_,?_,?_,?_,S₀n _ kn,S₀n _ inn,S₀n _ snn,S₀n _ mnn,ik.symm,by simp,by simp,by simp,by simp,by simp,by simp⟩
  ·by_cases q:b = T.nd
   ·subst q; rw [Cs.put_self,S₀nd]
   ·have hb':S b≠none:=fun z=>hb (S₀n b z)
    have nb:∀ a,S a = none→b≠a:=fun a ha z=>hb' (z ▸ ha)
    rw [Cs.put_ne _ _ q,Cs.put_ne _ _ (nb _ mnn),Cs.put_ne _ _ (nb _ snn),Cs.put_ne _ _ (nb _ inn),Cs.put_ne _ _ (nb _ kn),← hS₀,Cs.put_ne _ _ q]
  ·rw [Cs.put_ne _ _ (nin _ kn).symm,Cs.put_ne _ _ mk.symm,Cs.put_ne _ _ sk.symm,Cs.put_ne _ _ ik.symm,Cs.put_self]; rfl
  ·rw [Cs.put_ne _ _ (nin _ inn).symm,Cs.put_ne _ _ mi.symm,Cs.put_ne _ _ si.symm,Cs.put_self]; rfl
  ·rw [Cs.put_ne _ _ (nin _ snn).symm,Cs.put_ne _ _ ms.symm,Cs.put_self]
  ·rw [Cs.put_ne _ _ (nin _ mnn).symm,Cs.put_self]; rfl
 change WS _ _ (CR K) _ _ (((((S.put ka (.lst [])).put ia (.lst [])).put sa (.set [])).put ma (.map [])).put T.nd (.raw o)) _ _
 generalize (((((S.put ka (.lst [])).put ia (.lst [])).put sa (.set [])).put ma (.map [])).put T.nd (.raw o)) = S₁ at C0 ⊢
 have back:∀ {seen es S'},FC S₀ sucAt ka ia sa ma seen es S'→Sorter (Cs.put S' T.nd (.map (T.nodes.map fun x=>(x.key,.ref x.ia)))) T:=fun {seen es S'} C=>by
  refine h.keep fun b c e=>?_
  by_cases q:b = T.nd
  ·subst q; rw [Cs.put_self]; rw [h.map] at e; exact e
  ·rw [Cs.put_ne _ _ q,C.ext b (by rw [← hS₀,Cs.put_ne _ _ q,e]; exact fun z=>by cases z),← hS₀,Cs.put_ne _ _ q]; exact e
 generalize hg:succOf T.an = g
 generalize hV:T.nodes.map (·.key) = V
 have Vlen:V.length≤900:=by rw [← hV]; simpa using hl
 have Vnd:V.Nodup:=hV ▸ h.keys
 have gV:∀ u w,w∈g u→w∈V:=fun u w hw=>by
  rw [← hV,← an_keys]; exact hc.succ (k:=u) (hg ▸ hw)
 have gx:∀ x∈T.nodes,g x.key = x.succ:=fun x hx=>by
  rw [← hg]
  rcases npOf_nodes (k:=x.key) (l:=T.nodes) with ⟨y,hy,ek,_,_,es⟩ | ⟨nk,_⟩
  ·rw [key_inj h.keys hy hx ek] at es; exact es
  ·exact absurd (List.mem_map.mpr ⟨x,hx,rfl⟩) nk
 have unp:∀ {seen es S' ρ' sts Q},FC S₀ sucAt ka ia sa ma seen es S'→WS (n + 2) K (CR K) (scAt 127) ρ' (Cs.put S' T.nd (.map (T.nodes.map fun x=>(x.key,.ref x.ia)))) sts Q→WS (n + 2) K (CR K) (scAt 127) ρ' S' sts Q:=fun {seen es S' ρ' sts Q} C w =>
  ws_unpin (C.get S₀nd) ho (fun o9=>nsys) w
 refine ws_cons (wx_for V (fun v=>.py v.d) (WideJ g V S₀ sucAt T.a T.nd ka ia sa ma) (.pin T.nd) (by simp)
  (wi_keys (a:=T.nd) (l:=T.nodes.map fun x=>(x.key,.ref x.ia)) (we_name rfl ⟨rfl,⟨nsys,o,C0.get S₀nd,ho⟩,?_,⟨_,SubL.sub (ρ₁:=rho127' T.a T.nd ka ia sa ma) ⟨rfl,rfl,rfl,rfl,rfl,rfl,trivial⟩,[],V,rfl,C0,by simp,rfl,fun r hr=>hr⟩,?_⟩)) ?_ ?_)
 ·rw [← hV,List.map_map,List.map_map]; rfl
 ·intro b hb
  cases hb
  exact ⟨o,pin_raw (C0.get S₀nd),fun pre ρ₂ S₂ hp0=>by obtain ⟨seen,post,_,C,_⟩:=hp0; exact pin_raw (C.get S₀nd)⟩
 ·rintro pre v0 post ρ₁ (S₂:Cs) eV ⟨seen0,post',hρ,C1,sV,eV',cont⟩
  subst hρ
  have:post' = v0 :: post:=by have:=eV.symm.trans eV'; exact (List.append_cancel_left this).symm
  subst this
  refine ⟨_,_,asg_name (by kernel_rfl),asgok_name,?_⟩
  have v0V:v0∈V:=by rw [eV]; simp
  refine ws_cons (wx_if (wt_in (k:=v0) (we_name rfl ⟨rfl,we_name rfl ⟨sa,_,rfl,.inl ⟨_,C1.see,rfl⟩,?_⟩⟩)))
  by_cases q0:v0∈seen0
  ·simp only [q0,decide_true,if_true]
   refine ws_cons (wx_continue ?_)
   exact ⟨_,SubL.sub (ρ₁:=rho127' T.a T.nd ka ia sa ma) ⟨rfl,rfl,rfl,rfl,rfl,rfl,trivial⟩,seen0,post,rfl,C1,sV,by rw [eV]; simp,fun r hr=>cont r (.skip q0 hr)⟩
  simp only [q0,decide_false,Bool.false_eq_true,if_false]
  refine ws_nil (ws_cons (wx_while (LongJ g V S₀ sucAt T.a T.nd ka ia sa ma seen0 v0) (todoN g V seen0 + leftN g (fs [])) ⟨_,SubL.sub (ρ₁:=rho127 T.a T.nd ka ia sa ma v0) ⟨rfl,rfl,rfl,rfl,rfl,rfl,rfl,trivial⟩,⟨seen0,[],v0,rfl,C1,v0V,sV,rfl,fun r hr=>hr⟩⟩ ?_))
  rintro k ρ₂ (S₃:Cs) ⟨seen,es,v,hρ,C,vV,sV3,hk,run⟩
  subst hρ
  have slen:seen.length≤900:=Nat.le_trans (nodup_le C.snd sV3) Vlen
  have elen:es.length≤900:=by
   have:=nodup_le C.nd (m:=seen) (fun k hk=>by obtain ⟨x,hx,rfl⟩:=List.mem_map.mp hk; exact C.sub x hx)
   simp at this; dict_keeps
  refine wt_const ?_
  rw [if_pos rfl]
  refine ws_cut (MidJ g V S₀ sucAt T.a T.nd ka ia sa ma seen0 v0 k) (wx_if (wt_in (k:=v) (we_name rfl ⟨rfl,we_name rfl ⟨sa,_,rfl,.inl ⟨_,C.see,rfl⟩,?_⟩⟩))) ?_
  ·by_cases q:v∈seen
   ·simp only [q,decide_true,if_true]
    refine ws_cons (wx_if (wt_in (k:=v) (we_name rfl ⟨rfl,we_name rfl ⟨ma,_,rfl,.inr ⟨_,.inl C.map,rfl⟩,?_⟩⟩)))
    by_cases q2:v∈es.map (·.k)
    ·have hat:=atK_map C.nd q2
     simp only [hat,Option.isSome_some,if_true]
     refine unp C ?_
     have nn:∀ {b c},S₃ b = some c→(∀ o,c≠.raw o)→(Cs.put S₃ T.nd (.map (T.nodes.map fun x=>(x.key,.ref x.ia)))) b = some c:=fun {b c} e hc=>by
      have:b≠T.nd:=fun q=>by rw [q,C.get S₀nd] at e; exact hc _ (Option.some.inj e).symm
      rw [Cs.put_ne _ _ this]; exact e
     have hst:(Cs.put S₃ T.nd (.map (T.nodes.map fun x=>(x.key,.ref x.ia)))) ka = some (.lst (((es.map (·.k)).reverse.map Ky.d).map D.py)):=by
      rw [nn C.stk (by simp)]; simp [kyL]
     refine ws_cons (wx_returnF (wf_add (WE.weak (WF.frozen (wf_sliceC (we_name rfl ⟨ka,rfl,?_⟩))))))
     show WE _ _ _ _ _ _ _ _
     refine we_item (k:=v) rfl (we_name rfl ⟨ma,_,_,rfl,nn C.map (by simp),hat,_,rfl,?_⟩)
     show ∃ ds:List PyData,_
     refine ⟨_,hst,by simp; dict_keeps,?_⟩
     rw [pick_from]
     refine (wf_list (wes_cons (we_name rfl (wes_nil ⟨[v.d],rfl,one_le _,?_⟩)))).frozen.weak
     refine ⟨_,_,rfl,rfl,?_,?_⟩
     ·have:(((es.map (·.k)).reverse.map Ky.d).drop ((es.map (·.k)).reverse.findIdx (· == v))).length≤es.length:=by simp
      rw [sizeLine_eq]; simp at this ⊢; dict_keeps
     ·refine ⟨back C,some (ringOf (fs es) v),cont _ (.ring q0 (run _ (.ring q (by rw [fs_keys]; exact q2)))),?_⟩
      show Ret.new _ = Ret.new _
      unfold ringOf
      rw [fs_keys]
      simp [List.map_drop]
    ·have hat:=atK_none (k:=v) (l:=mapOf es) (by rw [mapOf_keys]; simpa using q2)
     simp only [hat,Option.isSome_none,Bool.false_eq_true,if_false]
     refine ws_nil (ws_nil ⟨seen,es,SubL.sub ⟨rfl,rfl,rfl,rfl,rfl,rfl,trivial⟩,C,sV3,by dict_keeps,fun w st' hp r hr=>run r (.go1 q (by rw [fs_keys]; exact q2) hp hr),fun hp=>run _ (.end1 q (by rw [fs_keys]; exact q2) hp)⟩)
   ·simp only [q,decide_false,Bool.false_eq_true,if_false]
    have hv:v∈T.nodes.map (·.key):=hV ▸ vV
    rcases atK_nodes (k:=v) (l:=T.nodes) with ⟨x,hx,ek,ea⟩ | ⟨nk,_⟩
    ·subst ek
     refine ws_cons (wx_expr (we_cmeth1 F.plainAttrs_set F.slot_set_add F.type_set_add (we_name rfl ⟨sa,_,rfl,C.see,rfl,we_name rfl (op_add C.see (by dict_keeps) q ⟨rfl,?_⟩)⟩)))
     have ns:∀ {b c},S₃ b = some c→(∀ l,c≠.set l)→(Cs.put S₃ sa (.set (seen ++ [x.key]))) b = some c:=fun {b c} e hc=>by
      have:b≠sa:=fun q=>by rw [q,C.see] at e; exact hc _ (Option.some.inj e).symm
      rw [Cs.put_ne _ _ this]; exact e
     have g0:∀ {b c},S₀ b = some c→S₃ b = some c:=fun e=>C.get e
     have gsa:GetA K (Cs.put S₃ sa (.set (seen ++ [x.key]))) x.ia "successors" (.ref x.sa):=.slot (cls40 H) (slotSucc H) (ns (g0 (F0'.info x hx)) (by simp)) (ns (g0 (F0'.dict x hx)) (by simp)) rfl rfl
     refine ws_cons (wx_expr (we_cmeth1 F.plainAttrs_list F.slot_list_append F.type_list_append (we_name rfl ⟨ia,_,rfl,ns C.its (by simp),rfl,we_nextof (H.gl _ _ rfl) (we_attrE (we_itemP (k:=x.key) rfl (we_name rfl ⟨T.nd,_,_,rfl,.inr ⟨nsys,o,ns (g0 S₀nd) (by simp),ho⟩,ea,x.ia,_,rfl,gsa,x.sa,_,rfl,ns (g0 (F0'.succ x hx)) (by simp),fun I m hI hm hne=>?_⟩)))⟩)))
     have hI':S₃ I = none:=by
      have:I≠sa:=fun z=>by rw [z,Cs.put_self] at hI; (first | exact dNS hI | exact dSN hI | (obtain rfl:=Option.some.inj hI) | cases hI)
      rw [Cs.put_ne _ _ this] at hI; exact hI
     have hm':S₃ m = none:=by
      have:m≠sa:=fun z=>by rw [z,Cs.put_self] at hm; (first | exact dNS hm | exact dSN hm | (obtain rfl:=Option.some.inj hm) | cases hm)
      rw [Cs.put_ne _ _ this] at hm; exact hm
     have C5:=C.push hI' hm' hne q
     rw [F0'.at_ x hx] at C5
     have nI:∀ {b c},S₃ b = some c→b≠I:=fun e z=>by rw [z,hI'] at e; (first | exact dNS e | exact dSN e | (obtain rfl:=Option.some.inj e) | cases e)
     have nm:∀ {b c},S₃ b = some c→b≠m:=fun e z=>by rw [z,hm'] at e; (first | exact dNS e | exact dSN e | (obtain rfl:=Option.some.inj e) | cases e)
     have ne2:∀ {a b c d},S₃ a = some c→S₃ b = some d→c≠d→a≠b:=fun ea eb hc z=>by rw [z,eb] at ea; exact hc (Option.some.inj ea).symm
     have iat:((((Cs.put S₃ sa (.set (seen ++ [x.key]))).put I (.raw (iterObj x.sa 0))).put m (.raw (nextObj I)))) ia = some (.lst (es.map fun x=>D.ref x.m).reverse):=by
      rw [Cs.put_ne _ _ (nm C.its),Cs.put_ne _ _ (nI C.its)]; exact ns C.its (by simp)
     refine op_append iat (by simp; dict_keeps) ⟨rfl,?_⟩
     have kat:(((((Cs.put S₃ sa (.set (seen ++ [x.key]))).put I (.raw (iterObj x.sa 0))).put m (.raw (nextObj I)))).put ia (.lst ((es.map fun x=>D.ref x.m).reverse ++ [.ref m]))) ka = some (.lst (kyL (es.map (·.k)).reverse)):=by
      rw [Cs.put_ne _ _ C.ki,Cs.put_ne _ _ (nm C.stk),Cs.put_ne _ _ (nI C.stk)]; exact ns C.stk (by simp)
     have mat:(((((Cs.put S₃ sa (.set (seen ++ [x.key]))).put I (.raw (iterObj x.sa 0))).put m (.raw (nextObj I)))).put ia (.lst ((es.map fun x=>D.ref x.m).reverse ++ [.ref m]))) ma = some (.map (mapOf es)):=by
      rw [Cs.put_ne _ _ (ne2 C.map C.its (by simp)),Cs.put_ne _ _ (nm C.map),Cs.put_ne _ _ (nI C.map)]; exact ns C.map (by simp)
     refine ws_cons (wx_setitemC (ky:=x.key) rfl (we_lencell (H.gl _ _ rfl) (we_name rfl ⟨ka,_,rfl,kat,by simp [kyL]; dict_keeps,we_name rfl ⟨ma,_,rfl,mat,by rw [mapOf_len]; dict_keeps,?_⟩⟩)))
     have e6:((kyL (es.map (·.k)).reverse).length:Int) = es.length:=by simp [kyL]
     rw [e6]
     have kat2:((((((Cs.put S₃ sa (.set (seen ++ [x.key]))).put I (.raw (iterObj x.sa 0))).put m (.raw (nextObj I)))).put ia (.lst ((es.map fun x=>D.ref x.m).reverse ++ [.ref m]))).put ma (.map (putK (mapOf es) x.key (.int es.length)))) ka = some (.lst (kyL (es.map (·.k)).reverse)):=by
      rw [Cs.put_ne _ _ (ne2 C.stk C.map (by simp))]; exact kat
     refine ws_cons (wx_expr (we_cmeth1 F.plainAttrs_list F.slot_list_append F.type_list_append (we_name rfl ⟨ka,_,rfl,kat2,rfl,we_name rfl (op_append kat2 (by simp [kyL]; dict_keeps) ⟨rfl,?_⟩)⟩)))
     refine ws_nil ⟨seen ++ [x.key],_,SubL.sub ⟨rfl,rfl,rfl,rfl,rfl,rfl,trivial⟩,C5,?_,?_,fun w st' hp r hr=>run r (.go2 q hp hr),fun hp=>run _ (.end2 q hp)⟩
     ·intro y hy
      rcases List.mem_append.mp hy with hy | hy
      ·exact sV3 y hy
      ·simp at hy; rw [hy]; exact vV
     ·have:=todo_add (g:=g) q Vnd vV
      rw [hk]
      show todoN g V (seen ++ [x.key]) + (((g x.key).length - 0) + leftN g (fs es))≤_
      dict_keeps
    ·exact absurd hv nk
  ·rintro ρ₃ (S₄:Cs) ⟨seen,es,hsub,C,sV4,hk4,c1,c2⟩
   refine ws_sub hsub ?_
   refine ws_cons (wx_while (ShortJ g S₀ sucAt T.a T.nd ka ia sa ma seen (fs es)) es.length ⟨_,Sub.refl _,⟨es,rfl,C,rfl,rfl⟩⟩ ?_)
   rintro k5 ρ₅ (S₅:Cs) ⟨es5,hρ,C5,hk5,hp5⟩
   subst hρ
   have elen5:es5.length≤900:=by
    have h1:=nodup_le C5.nd (m:=seen) (fun k hk=>by obtain ⟨x,hx,rfl⟩:=List.mem_map.mp hk; exact C5.sub x hx)
    have h2:=nodup_le C5.snd sV4
    simp at h1; dict_keeps
   refine wt_listcell (a:=ka) rfl C5.stk (by simp [kyL]; dict_keeps) ?_
   cases es5 with
   | nil =>
    simp only [kyL,List.map_nil,List.reverse_nil,List.isEmpty_nil,Bool.not_true,Bool.false_eq_true,if_false]
    refine ws_cons (wx_break ?_)
    have hp:popTo g (fs es) = none:=hp5.symm
    refine ws_nil ⟨_,SubL.sub (ρ₁:=rho127' T.a T.nd ka ia sa ma) ⟨rfl,rfl,rfl,rfl,rfl,rfl,trivial⟩,seen,post,rfl,C5,sV4,by rw [eV]; simp,fun r hr=>cont r (.done q0 (c2 hp) hr)⟩
   | cons x es5 =>
    have hne:(kyL (List.map (fun x=>x.k) (x :: es5)).reverse).isEmpty = false:=by simp [kyL]
    rw [hne]
    simp only [Bool.not_false,if_true]
    obtain ⟨x1,x2⟩:=C5.met x (.head _)
    obtain ⟨x3,x4⟩:=C5.itr x (.head _)
    have xV:x.k∈V:=sV4 _ (C5.sub x (.head _))
    obtain ⟨y,hy,ey⟩:=List.mem_map.mp (show x.k∈T.nodes.map (·.key) from hV ▸ xV)
    have hya:sucAt x.k = y.sa:=by rw [← ey]; exact F0'.at_ y hy
    have hyl:S₅ (sucAt x.k) = some (.lst (kyL y.succ)):=by rw [hya]; exact C5.get (F0'.succ y hy)
    have hyg:g x.k = y.succ:=by rw [← ey]; exact gx y hy
    have its5:S₅ ia = some (.lst ((es5.map fun x=>D.ref x.m).reverse ++ [.ref x.m])):=by rw [C5.its]; simp
    refine ws_cons (wx_try (ws_cons (wx_assignX (wex_next (we_lastC (we_name rfl ⟨ia,rfl,we_neg (we_int ⟨1,rfl,_,_,rfl,its5,x.m,x.I,sucAt x.k,x.i,_,rfl,x1,x3,hyl,fun d' hd'=>?_,fun hend=>?_⟩)⟩))))))
    ·obtain ⟨w,hw,rfl⟩:∃ w,y.succ[x.i]? = some w∧D.py w.d = d':=by
      unfold kyL at hd'
      rw [List.getElem?_map] at hd'
      cases e:y.succ[x.i]? with
      | none=>rw [e] at hd'; (first | exact dNS hd' | exact dSN hd' | (obtain rfl:=Option.some.inj hd') | cases hd')
      | some w=>rw [e] at hd'; exact ⟨w,rfl,by simpa using hd'⟩
     have hp:popTo g (fs es) = some (w,fs ({ x with i:=x.i + 1 } :: es5)):=by
      rw [← hp5]
      show (match (g x.k)[x.i]? with | some w=>some (w,(x.k,x.i + 1) :: fs es5) | none=>popTo g (fs es5)) = _
      rw [hyg,hw]; rfl
     refine ws_cons (wx_break ?_)
     refine ws_nil ⟨rho127 T.a T.nd ka ia sa ma w,_,SubL.sub ⟨rfl,rfl,rfl,rfl,rfl,rfl,rfl,trivial⟩,?_,⟨seen,_,w,rfl,C5.next (j:=x.i + 1),gV x.k w (by rw [hyg]; exact List.mem_of_getElem? hw),sV4,rfl,fun r hr=>c1 w _ hp r hr⟩⟩
     have:=popTo_left hp
     dict_keeps
    ·have hend':y.succ[x.i]? = none:=by
      unfold kyL at hend
      rw [List.getElem?_map] at hend
      cases e:y.succ[x.i]? with
      | none=>rfl
      | some w=>rw [e] at hend; (first | exact dNS hend | exact dSN hend | (obtain rfl:=Option.some.inj hend) | cases hend)
     have hp:popTo g (fs es5) = popTo g (fs es):=by
      rw [← hp5]
      show _ = (match (g x.k)[x.i]? with | some w=>some (w,(x.k,x.i + 1) :: fs es5) | none=>popTo g (fs es5))
      rw [hyg,hend']
     have C6:=C5.pop
     have nI:∀ {b c},S₅ b = some c→(∀ o,c≠.raw o)→(Cs.put S₅ x.I (.raw (iterEnd x.i))) b = some c:=fun {b c} e hc=>by
      have:b≠x.I:=fun q=>by rw [q,x3] at e; exact hc _ (Option.some.inj e).symm
      rw [Cs.put_ne _ _ this]; exact e
     have ne2:∀ {a b c d},S₅ a = some c→S₅ b = some d→c≠d→a≠b:=fun ea eb hc z=>by rw [z,eb] at ea; exact hc (Option.some.inj ea).symm
     have k5:(Cs.put S₅ x.I (.raw (iterEnd x.i))) ka = some (.lst (kyL (es5.map (·.k)).reverse ++ [.py x.k.d])):=by rw [nI C5.stk (by simp)]; simp [kyL]
     have m5:((Cs.put S₅ x.I (.raw (iterEnd x.i))).put ka (.lst (kyL (es5.map (·.k)).reverse))) ma = some (.map (mapOf (x :: es5))):=by
      rw [Cs.put_ne _ _ (ne2 C5.map C5.stk (by simp))]; exact nI C5.map (by simp)
     have i5:(((Cs.put S₅ x.I (.raw (iterEnd x.i))).put ka (.lst (kyL (es5.map (·.k)).reverse))).put ma (.map (delK (mapOf (x :: es5)) x.k))) ia = some (.lst ((es5.map fun x=>D.ref x.m).reverse ++ [.ref x.m])):=by
      rw [Cs.put_ne _ _ (ne2 C5.its C5.map (by simp)),Cs.put_ne _ _ C5.ki.symm]; exact nI its5 (by simp)
     have hk':=List.nodup_cons.mp C5.nd
     refine wh_suite (H.gl _ _ rfl) (exmSS H) ?_
     refine ws_cons (wx_delitemC (k:=x.k) (we_name rfl ⟨ma,rfl,we_cmeth0 F.plainAttrs_list F.slot_list_pop F.type_list_pop (we_name rfl ⟨ka,_,rfl,k5,rfl,op_pop k5 (by simp [kyL]; simp at elen5; dict_keeps) ⟨_,rfl,m5,by rw [mapOf_len]; dict_keeps,?_,?_⟩⟩)⟩))
     ·rw [atK_map C5.nd (by simp)]; rfl
     ·refine ws_cons (wx_exprA (we_cmeth0 F.plainAttrs_list F.slot_list_pop F.type_list_pop (we_name rfl ⟨ia,_,rfl,i5,rfl,op_pop i5 (by simp; simp at elen5; dict_keeps) ?_⟩)))
      refine ws_nil (ws_nil ⟨_,es5.length,SubL.sub (ρ₁:=rho127' T.a T.nd ka ia sa ma) ⟨rfl,rfl,rfl,rfl,rfl,rfl,trivial⟩,by rw [hk5]; simp,⟨es5,rfl,C6,rfl,hp⟩⟩)
 ·rintro ρ₁ (S₂:Cs) ⟨seen,post,hρ,C,sV,eV,cont⟩
  subst hρ
  have:post = []:=by
   have:V ++ post = V ++ []:=by rw [← eV]; simp
   exact List.append_cancel_left this
  subst this
  refine unp C ?_
  refine ws_cons (wx_return (we_none ⟨back C,none,cont none .nil,rfl⟩))
end
section
open PySem
noncomputable def Chn (g:Ky→List Ky):List Ky→Prop
 | a :: b :: r=>b∈g a∧Chn g (b :: r)
 | _=>True
theorem Chn.tail {g:Ky→List Ky} {a:Ky} {l:List Ky} (h:Chn g (a :: l)):Chn g l:=by
 cases l with
 | nil=>trivial
 | cons b l=>exact h.2
theorem Chn.drop {g:Ky→List Ky}:∀ {l:List Ky} (k:Nat),Chn g l→Chn g (l.drop k)
 | _,0,h=>h
 | [],k + 1,h=>h
 | a :: l,k + 1,h=>Chn.drop (l:=l) k h.tail
theorem Chn.pre {g:Ky→List Ky}:∀ {l r:List Ky},Chn g (l ++ r)→Chn g l
 | [],_,_=>trivial
 | [a],_,_=>trivial
 | a :: b :: l,r,h=>⟨h.1,Chn.pre (l:=b :: l) (r:=r) h.2⟩
theorem Chn.snoc {g:Ky→List Ky}:∀ {l:List Ky} {u w:Ky},Chn g (l ++ [u])→w∈g u→Chn g (l ++ [u] ++ [w])
 | [],u,w,_,hw=>⟨hw,trivial⟩
 | [a],u,w,h,hw=>⟨h.1,hw,trivial⟩
 | a :: b :: l,u,w,h,hw=>⟨h.1,Chn.snoc (l:=b :: l) h.2 hw⟩
structure StkOk (g:Ky→List Ky) (st:Fst) (v:Ky):Prop where
 chn:Chn g ((keysOf st).reverse ++ [v])
 nd:(keysOf st).Nodup
structure StkP (g:Ky→List Ky) (st:Fst):Prop where
 chn:Chn g (keysOf st).reverse
 nd:(keysOf st).Nodup
theorem StkOk.top {g:Ky→List Ky} {seen:List Ky} {st:Fst} {v:Ky} (h:StkOk g st v) (hs:∀ k∈keysOf st,k∈seen):StkP g (topR seen st v).2:=by
 unfold topR
 by_cases q:v∈seen
 ·rw [if_pos q]; exact ⟨h.chn.pre,h.nd⟩
 ·rw [if_neg q]; exact ⟨(List.reverse_cons:(v :: keysOf st).reverse = _) ▸ h.chn,List.nodup_cons.mpr ⟨fun z=>q (hs v z),h.nd⟩⟩
set_option tactic.hygienic true in
theorem StkP.pop {g:Ky→List Ky} {st st':Fst} {w:Ky} (h:StkP g st) (hp:popTo g st = some (w,st')):StkOk g st' w:=by
 replace hp:=pops hp
 induction hp with
 | @here u i st w e =>
  have e1:(u :: keysOf st).reverse = _:=List.reverse_cons
  exact ⟨e1 ▸ Chn.snoc (e1 ▸ h.chn) (List.mem_of_getElem? e),h.nd⟩
 | @next u i st w st' _ ih =>
  have e1:(u :: keysOf st).reverse = _:=List.reverse_cons
  have h1:Chn g (u :: keysOf st).reverse:=h.chn
  rw [e1] at h1
  exact ih ⟨h1.pre,(List.nodup_cons.mp h.nd).2⟩
structure RingOk (g:Ky→List Ky) (l:List Ky):Prop where
 chn:Chn g l
 ends:∃ x m,l = x :: m ++ [x]
 nd:l.dropLast.Nodup
theorem ringOf_ok {g:Ky→List Ky} {st:Fst} {v:Ky} (h:StkOk g st v) (hv:v∈keysOf st):RingOk g (ringOf st v):=by
 unfold ringOf
 generalize hr:(keysOf st).reverse = r
 have hv':v∈r:=by rw [← hr]; simpa using hv
 have hc:Chn g (r ++ [v]):=hr ▸ h.chn
 have hn:r.Nodup:=by rw [← hr]; exact (List.reverse_perm _).nodup_iff.mpr h.nd
 obtain ⟨a,b,e⟩:=List.append_of_mem hv'
 have hna:v∉a:=fun z=>by
  rw [e] at hn
  exact (List.nodup_append.mp hn).2.2 v z v (by simp) rfl
 have ei:r.findIdx (· == v) = a.length:=by
  rw [e,List.findIdx_append]
  have:a.findIdx (· == v) = a.length:=by
   rw [List.findIdx_eq_length]; intro x hx
   simpa using fun z:x = v=>hna (z ▸ hx)
  rw [this]; simp [List.findIdx_cons]
 have ed:r.drop (r.findIdx (· == v)) = v :: b:=by rw [ei,e]; simp
 rw [ed]
 refine ⟨?_,⟨v,b,rfl⟩,?_⟩
 ·have:Chn g ((r ++ [v]).drop a.length):=hc.drop _
  rw [e] at this; simpa using this
 ·have:(v :: b ++ [v]).dropLast = v :: b:=List.dropLast_concat ..
  rw [this]
  rw [e] at hn; exact (List.nodup_append.mp hn).2.1
theorem Runs.ring_ok {g:Ky→List Ky} {seen:List Ky} {st:Fst} {v:Ky} {r:Sum (List Ky) (List Ky)} (h:Runs g seen st v r):∀ l,r = .inl l→StkOk g st v→(∀ k∈keysOf st,k∈seen)→RingOk g l:=by
 induction h with
 | stop e =>
  intro l q ok o9
  subst q
  obtain ⟨h2,rfl⟩:=stepR_ring e
  exact ringOf_ok ok h2
 | go e _ ih =>
  intro l q ok hs
  obtain ⟨_,h1,h2⟩:=stepR_go e
  exact ih l q ((ok.top hs).pop h2) fun k hk=>h1 ▸ topR_seen.mpr ((topR_keys (popTo_mem h2 k hk)).imp_left (hs k))
theorem Finds.ring_ok {g:Ky→List Ky} {vs seen:List Ky} {r:Option (List Ky)} (h:Finds g vs seen r):∀ l,r = some l→RingOk g l:=by
 induction h with
 | nil=>intro l e; cases e
 | skip _ _ ih=>exact ih
 | ring h1 h2=>intro l e; cases e; exact h2.ring_ok _ rfl ⟨trivial,.nil⟩ (by intro k hk; cases hk)
 | done _ _ _ ih=>exact ih
theorem Chn.mem {g:Ky→List Ky} {V:List Ky} (hV:∀ a b,b∈g a→b∈V):∀ {r:List Ky} {a:Ky},Chn g (a :: r)→∀ k∈r,k∈V
 | [],_,_,k,hk=>by cases hk
 | b :: r,a,h,k,hk=>by
  rcases List.mem_cons.mp hk with rfl | hk
  ·exact hV _ _ h.1
  ·exact Chn.mem hV h.2 k hk
theorem RingOk.len {g:Ky→List Ky} {V l:List Ky} (h:RingOk g l) (hV:∀ a b,b∈g a→b∈V):l.length≤V.length + 1:=by
 obtain ⟨x,m,e⟩:=h.ends
 have hc:=h.chn
 have hn:=h.nd
 rw [e] at hc hn
 have hd:(x :: m ++ [x]).dropLast = x :: m:=List.dropLast_concat ..
 rw [hd] at hn
 have hm:=Chn.mem hV hc
 have:=nodup_le (m:=V) hn fun k hk=>by
  rcases List.mem_cons.mp hk with rfl | hk
  ·exact hm _ (List.mem_append_right _ (.head _))
  ·exact hm _ (List.mem_append_left _ hk)
 rw [e,List.length_append,List.length_singleton]; dict_keeps
end
section
variable {n:Nat} {K:Kx} {R:Rsc} {sc:Scope} {ρ:Rho} {S:R.σ}
theorem wt_plain {e:Expr} {Q:Bool→R.σ→Prop} (he:∀ env t,isTrue e env t = (do let v ← t; standAt e.pos; holding [v] (truthy v))) (h:WE n K R sc ρ S e fun d S₁=>∃ b,(d = .none∧b = false∨d = .bool b∨∃ l:List PyData,d = .lst l∧l.length < 2 ^ 62∧b = !l.isEmpty)∧Q b S₁):WT n K R sc ρ S e Q :=
 fun A G env Φ s ok I=>by
  rw [he]
  refine wpAny_bind (wpAny_mono (h A G env Φ s ok I) (fun v s₁ ⟨Φ₁,S₁,d,y,r,b,hb,q⟩=>wpAny_bind (wpAny_standAt (wpAny_holding ?_))) fun o9 o9 x=>x.elim)
  rcases hb with ⟨rfl,rfl⟩ | rfl | ⟨l,rfl,hl,rfl⟩
  ·(first | subst r | (cases (show _ = _ from r)))
   exact wpAny_pure ⟨Φ₁,S₁,y,q⟩
  ·(first | subst r | (cases (show _ = _ from r)))
   exact wpAny_truthy_bool ⟨Φ₁,S₁,y,q⟩
  ·obtain ⟨a,vs,rfl,h1,h2⟩:=WRep.lst' (W:=fun o9=>False) (h:=s₁.heap) (.inl r) y.inv.froz
   have hz:=size_eq h2
   refine wpAny_truthy_list h1 (by rw [hz]; dict_keeps) ?_
   have e2:vs.isEmpty = l.isEmpty:=by
    rw [Bool.eq_iff_iff,Array.isEmpty_iff_size_eq_zero,hz,List.isEmpty_iff,List.length_eq_zero_iff]
   rw [e2]
   exact ⟨Φ₁,S₁,y.pure (.tok (tk:=s₁.toks + 1 + 1) y.inv.froz),q⟩
theorem we_fconst {a:Str} {k:Nat} {p pos:Pos} {Q:D→R.σ→Prop} (q:Q (.str a) S):WE n K R sc ρ S (.JoinedStr [.Constant (.str a) k p] pos) Q:=fun A G env Φ s ok I=>by
 exact wpAny_JoinedStr_one (we_str q A G env Φ s ok I)
theorem wt_name {x:Str} {xp:Pos} {Q:Bool→R.σ→Prop} (h:WE n K R sc ρ S (.Name x xp) fun d S₁=>∃ b,(d = .none∧b = false∨d = .bool b∨∃ l:List PyData,d = .lst l∧l.length < 2 ^ 62∧b = !l.isEmpty)∧Q b S₁):WT n K R sc ρ S (.Name x xp) Q:=wt_plain (fun o9 o9=>rfl) h
end
noncomputable def prepRet:Option (List Ky)→Ret
 | none=>.val .none
 | some l=>.exc (.ref 55) [.str "nodes are in a cycle",.list (l.map Ky.d)]
noncomputable def readyG (g:List An):List Ky:=(g.filter fun x=>x.2.1 == 0).map (·.1)
theorem Sorter.setRl0 {S:Cs} {T:SS} {r:Addr} (h:Sorter S T) (hr:S r = none) (l:List Ky):Sorter ((S.put r (.lst (kyL l))).put T.da (.attrs { T with rl:=some (r,l) }.attrs)) { T with rl:=some (r,l) }:=by
 have nr:∀ {b c},S b = some c→b≠r:=fun e q=>by rw [q,hr] at e; (first | exact dNS e | exact dSN e | (obtain rfl:=Option.some.inj e) | cases e)
 have ne:∀ b c,S b = some c→c≠.attrs T.attrs→((S.put r (.lst (kyL l))).put T.da (.attrs { T with rl:=some (r,l) }.attrs)) b = some c:=fun b c e hc=>by
  have:b≠T.da:=fun q=>by rw [q,h.attrs] at e; exact hc (Option.some.inj e).symm
  rw [Cs.put_ne _ _ this,Cs.put_ne _ _ (nr e)]; exact e
 refine ⟨ne _ _ h.inst (by simp),Cs.put_self ..,ne _ _ h.map (by simp),fun y hy=>⟨ne _ _ (h.nodes y hy).info (by simp),ne _ _ (h.nodes y hy).dict (by simp [SS.attrs]),ne _ _ (h.nodes y hy).succ (by simp)⟩,fun r' ks' e=>?_,h.dia,h.dsa,fun r' ks' e=>?_,h.keys⟩
 ·cases e
  rw [Cs.put_ne _ _ (nr h.attrs).symm,Cs.put_self]
 ·cases e
  intro q
  obtain ⟨y,hy,e⟩:=List.mem_map.mp q
  exact nr (h.nodes y hy).succ e
theorem flat_ready:∀ (l:List Nd),(l.flatMap fun x=>if x.np = 0 then [x.key.d] else []) = (readyG (l.map Nd.an)).map Ky.d
 | []=>rfl
 | x :: l=>by
  have ih:=flat_ready l
  rw [List.flatMap_cons,ih]
  unfold readyG
  by_cases q:x.np = 0 <;> simp [Nd.an,q]
section
variable {K:Kx} (H:Here K)
include H
theorem fn92:FnO K 92:=H.fo (by decide)
theorem meth127:MethF K 137 "_find_cycle" 127:=meth_at H (by decide)
theorem prepare92 {n:Nat} {S:Cs} {T:SS} (h:Sorter S T) (hr:T.rl = none) (hc:Closed T.an) (hl:T.nodes.length≤900) :
  WCall (n + 5) K (CR K) S (.ref 92) [.ref T.a] fun q S'=>∃ res,Finds (succOf T.an) (T.nodes.map (·.key)) [] res∧q = prepRet res∧∃ r T',Holds S' T' r ⟨T.an,readyG T.an,T.out,T.fin⟩∧T'.a = T.a:=by
 refine wcall_fn (ps:=["self"]) H (by decide) rfl rfl ?_ (by kernel_rfl) ?_
 ·intro qn
  refine len1 ?_
  intro v1
  kernel_rfl
 refine ws_cons (wx_if (wt_isnot (we_attr (a:=T.a) rfl (getRl H h) ?_)))
 rw [hr]
 refine ws_nil ?_
 refine ws_pinmap h.map (fun x hx=>by obtain ⟨y,_,rfl⟩:=List.mem_map.mp hx; rfl) fun o nsys ho=>?_
 generalize hS₀:S.put T.nd (.raw o) = S₀
 have S₀nd:S₀ T.nd = some (.raw o):=hS₀ ▸ Cs.put_self ..
 have S₀b:∀ {b c},S b = some c→(∀ l,c≠.map l)→S₀ b = some c:=fun {b c} e hc=>by
  have:b≠T.nd:=fun q=>by rw [q,h.map] at e; exact hc _ (Option.some.inj e).symm
  rw [← hS₀,Cs.put_ne _ _ this]; exact e
 have g0:GetA K S₀ T.a "_node2info" (.ref T.nd):=.dict (cls137 H) (S₀b h.inst (by simp)) (S₀b h.attrs (by simp)) rfl (attr_at H (by decide)).1 (dict137 H) rfl
 refine ws_cons (wx_setattr (a:=T.a) rfl (we_adopt (wf_comp1 [] (.pin T.nd) T.nodes (fun x=>.ref x.ia) (fun x=>if x.np = 0 then [x.key.d] else []) (fun x=>[(("i":Str),Slot.val (.ref x.ia))]) (wi_values (a:=T.nd) (l:=T.nodes.map fun x=>(x.key,.ref x.ia)) (we_attr (a:=T.a) rfl g0 ⟨rfl,⟨nsys,o,S₀nd,ho⟩,rfl,by rw [List.map_map]; rfl⟩)) trivial ?_ ?_ ?_ ?_ ?_)))
 ·intro x hx y hy e
  simp only [D.ref.injEq] at e
  rw [ia_inj h.dia hx hy e]
 ·intro x hx
  exact tgt_name (by kernel_rfl) (by kernel_rfl) rfl
 ·intro x hx
  have nx:=h.nodes x hx
  have gnp:GetA K S₀ x.ia "npredecessors" (.int x.np):=.slot (cls40 H) (slotNp H) (S₀b nx.info (by simp)) (S₀b nx.dict (by simp)) rfl rfl
  have gn:GetA K S₀ x.ia "node" (.py x.key.d):=.slot (cls40 H) (slotNode H) (S₀b nx.info (by simp)) (S₀b nx.dict (by simp)) rfl rfl
  refine wt_cmp (we_attr (a:=x.ia) rfl gnp (we_int ⟨_,cmp_eq .int .int,rfl,?_⟩).weak).weak
  rw [eqv_int]
  by_cases q:x.np = 0
  ·simp only [q,decide_true,if_true]
   exact we_attr (a:=x.ia) rfl gn ⟨rfl,_,rfl,rfl⟩
  ·simp only [q,decide_false,Bool.false_eq_true,if_false]
 ·rw [flat_ready]
  have:(readyG (T.nodes.map Nd.an)).length≤T.nodes.length:=by
   unfold readyG; rw [List.length_map]; exact Nat.le_trans (List.length_filter_le _ _) (by simp)
  rw [sizeLine_eq,List.length_map]; dict_keeps
 ·intro r hr0
  have hrn:S r = none:=by
   have:r≠T.nd:=fun q=>by rw [q,S₀nd] at hr0; (first | exact dNS hr0 | exact dSN hr0 | (obtain rfl:=Option.some.inj hr0) | cases hr0)
   rw [← hS₀,Cs.put_ne _ _ this] at hr0; exact hr0
  have ek:(T.nodes.flatMap fun x=>if x.np = 0 then [x.key.d] else []).map D.py = kyL (readyG T.an):=by
   rw [flat_ready]; simp [kyL]; rfl
  rw [ek]
  have nr:∀ {b c},S₀ b = some c→b≠r:=fun e q=>by rw [q,hr0] at e; (first | exact dNS e | exact dSN e | (obtain rfl:=Option.some.inj e) | cases e)
  refine ⟨_,.dict (cls137 H) (C:=137) (da:=T.da) (sl:=[]) (l:=T.attrs) ?_ ?_ (by simp [SS.attrs]) (attr_at H (by decide)).2 (dict137 H),?_⟩
  ·rw [Cs.put_ne _ _ (nr (S₀b h.inst (by simp)))]; exact S₀b h.inst (by simp)
  ·rw [Cs.put_ne _ _ (nr (S₀b h.attrs (by simp)))]; exact S₀b h.attrs (by simp)
  have ea:setA T.attrs "_ready_nodes" (.ref r) = { T with rl:=some (r,readyG T.an) }.attrs:=rfl
  rw [ea]
  have dn:T.da≠T.nd:=fun q=>by have:=h.attrs; rw [q,h.map] at this; (first | exact dNS this | exact dSN this | (obtain rfl:=Option.some.inj this) | cases this)
  refine ws_unpin (a:=T.nd) (c:=.map (T.nodes.map fun x=>(x.key,.ref x.ia))) (o:=o) ?_ ho (fun o9=>nsys) ?_
  ·rw [Cs.put_ne _ _ dn.symm,Cs.put_ne _ _ (nr S₀nd)]; exact S₀nd
  have h1:=h.setRl0 hrn (readyG T.an)
  have eS:((S₀.put r (.lst (kyL (readyG T.an)))).put T.da (.attrs { T with rl:=some (r,readyG T.an) }.attrs)).put T.nd (.map (T.nodes.map fun x=>(x.key,.ref x.ia))) = (S.put r (.lst (kyL (readyG T.an)))).put T.da (.attrs { T with rl:=some (r,readyG T.an) }.attrs):=by
   rw [Cs.put_comm _ _ _ dn,Cs.put_comm _ _ _ (nr S₀nd).symm,← hS₀,Cs.put_put,Cs.put_same _ h.map]
  rw [eS]
  generalize (S.put r (.lst (kyL (readyG T.an)))).put T.da (.attrs { T with rl:=some (r,readyG T.an) }.attrs) = S₁ at h1 ⊢
  have f:=find127 (n:=n + 1) H h1 hc hl
  refine ws_cons (wx_assign (WEX.no (wex_meth (a:=T.a) (C:=137) rfl (cls137 H) (meth127 H) (fn127 H) h1.inst h1.attrs rfl (wes_nil (f.mono fun q S₂ hp0=>?_)))))
  obtain ⟨h2,res,hres,eq⟩:=hp0
  cases res with
  | some l =>
   subst eq
   have ro:=hres.ring_ok l rfl
   have rl:=ro.len (V:=T.an.map (·.1)) fun a b hb=>hc.succ hb
   have ra:T.an.length = T.nodes.length:=List.length_map ..
   rw [List.length_map,ra] at rl
   obtain ⟨x,m,el⟩:=ro.ends
   refine ws_cons (wx_if (wt_name (we_name rfl ⟨true,.inr (.inr ⟨l.map Ky.d,rfl,?_,by rw [el]; rfl⟩),?_⟩)))
   ·rw [List.length_map]; dict_keeps
   refine ws_cons (wx_raiseOwn PySem.F.excBase_ValueError (own55 H) (H.gl _ _ rfl) (wes_cons (we_fconst (wes_cons (we_name rfl (wes_nil ⟨[.str "nodes are in a cycle",.list (l.map Ky.d)],rfl,?_,?_⟩))))))
   ·rw [sizeLine_eq]; show 2≤_; decide
   ·exact ⟨some l,hres,rfl,r,_,⟨h2,rfl,rfl,rfl,rfl⟩,rfl⟩
  | none =>
   subst eq
   refine ws_cons (wx_if (wt_name (we_name rfl ⟨false,.inl ⟨rfl,rfl⟩,?_⟩)))
   refine ws_nil (ws_nil ⟨none,hres,rfl,r,_,⟨h2,rfl,rfl,rfl,rfl⟩,rfl⟩)
end
section
variable {n:Nat} {K:Kx} {R:Rsc} {sc:Scope} {ρ:Rho} {S:R.σ}
theorem s_return {e:Expr} {p:Pos} {d:D} {rest:List Stmt} {Q:Fl→Rho→R.σ→Prop} (v:VE n K R sc ρ S e d) (q:Q (.ret d) ρ S):WS n K R sc ρ S (.Return (some e) p :: rest) Q:=ws_cons (wx_return (v _ q))
theorem VE.of {e:Expr} {d d':D} (h:VE n K R sc ρ S e d) (hd:d = d'):VE n K R sc ρ S e d':=hd ▸ h
theorem s_for {α:Type} {target iter:Expr} {body:List Stmt} {pos:Pos} {rest:List Stmt} {Q:Fl→Rho→R.σ→Prop} (l:List α) (enc:α→D) (J:List α→Rho→R.σ→Prop) (src:VI n K R sc ρ S iter .frz (l.map enc)) (i:Loose (fun ρ=>J [] ρ S) ρ)
  (turn:∀ pre x post ρ₁ S₁,l = pre ++ x :: post→J pre ρ₁ S₁→Bound n K R sc target (enc x) ρ₁ S₁ body (Turn (fun ρ₂ S₂=>Loose (fun ρ=>J (pre ++ [x]) ρ S₂) ρ₂) (Seq n K R sc rest Q)))
  (fin:∀ ρ₁ S₁,J l ρ₁ S₁→WS n K R sc ρ₁ S₁ rest Q) (hs:∀ env x,foldedSetIterable iter env x = pure x:=by intro o9 o9; rfl) (hpos:0 < n:=by first | exact Nat.succ_pos _ | omega):WS n K R sc ρ S (.For target iter body [] pos :: rest) Q :=
 ws_cons (wx_for l enc J .frz (by simp) (src _ ⟨rfl,i,fun b q=>by cases q⟩) turn fin hs hpos)
theorem f_to {l e:Expr} {p pos:Pos} {ds:List PyData} {b:Nat} (h:VR n K R sc ρ S l (.lst ds)) (v:VE n K R sc ρ S e (.int b)) (hz:ds.length≤sizeLine):VF n K R sc ρ S (.Subscript l (.Slice none (some e) none p) pos) (ds.take b):=fun Q q =>
 wf_slice (h _ (v _ ⟨b,rfl,⟨ds,rfl,hz,by rw [pick_to]; exact q⟩⟩))
theorem f_from {l e:Expr} {p pos:Pos} {ds:List PyData} {a:Nat} (h:VR n K R sc ρ S l (.lst ds)) (v:VE n K R sc ρ S e (.int a)) (hz:ds.length≤sizeLine):VF n K R sc ρ S (.Subscript l (.Slice (some e) none none p) pos) (ds.drop a):=fun Q q =>
 wf_slice (h _ (v _ ⟨a,rfl,⟨ds,rfl,hz,by rw [pick_from]; exact q⟩⟩))
end
section
open PySem
theorem npOf_cons (x:An) (g:List An) (k:Ky):npOf (x :: g) k = if x.1 = k then some x.2.1 else npOf g k:=by
 unfold npOf; rw [List.find?_cons]
 by_cases q:x.1 = k <;> simp [q]
theorem succOf_cons (x:An) (g:List An) (k:Ky):succOf (x :: g) k = if x.1 = k then x.2.2 else succOf g k:=by
 unfold succOf; rw [List.find?_cons]
 by_cases q:x.1 = k <;> simp [q]
theorem npOf_nil (k:Ky):npOf [] k = none:=rfl
theorem npOf_app (g h:List An) (k:Ky):npOf (g ++ h) k = if k∈g.map (·.1) then npOf g k else npOf h k:=by
 induction g with
 | nil=>simp
 | cons x g ih =>
  rw [List.cons_append,npOf_cons,npOf_cons,ih]
  by_cases q:x.1 = k
  ·simp [q]
  ·have q':¬ k = x.1:=fun z=>q z.symm
   simp only [List.map_cons,List.mem_cons,q,q',false_or,if_false]
theorem succOf_app (g h:List An) (k:Ky):succOf (g ++ h) k = if k∈g.map (·.1) then succOf g k else succOf h k:=by
 induction g with
 | nil=>simp
 | cons x g ih =>
  rw [List.cons_append,succOf_cons,succOf_cons,ih]
  by_cases q:x.1 = k
  ·simp [q]
  ·have q':¬ k = x.1:=fun z=>q z.symm
   simp only [List.map_cons,List.mem_cons,q,q',false_or,if_false]
theorem npOf_none {g:List An} {k:Ky} (h:k∉g.map (·.1)):npOf g k = none:=by
 induction g with
 | nil=>rfl
 | cons x g ih =>
  simp only [List.map_cons,List.mem_cons,not_or] at h
  rw [npOf_cons,if_neg (fun z=>h.1 z.symm),ih h.2]
theorem npOf_bump (g:List An) (k:Ky) (j:Int) (x:Ky):npOf (bumpG g k j) x = if x = k then (npOf g x).map (· + j) else npOf g x:=by
 induction g with
 | nil=>simp [bumpG,npOf_nil]
 | cons y g ih =>
  have e:bumpG (y :: g) k j = (if y.1 = k then (y.1,y.2.1 + j,y.2.2) else y) :: bumpG g k j:=rfl
  rw [e,npOf_cons,npOf_cons,ih]
  by_cases q:y.1 = k
  ·subst q
   by_cases q2:y.1 = x
   ·simp [q2]
   ·have:¬ x = y.1:=fun z=>q2 z.symm
    simp [q2,this]
  ·by_cases q2:y.1 = x
   ·subst q2; simp [q]
   ·simp [q,q2]
theorem npOf_link (g:List An) (p k x:Ky):npOf (linkG g p k) x = npOf g x:=by
 induction g with
 | nil=>rfl
 | cons y g ih =>
  have e:linkG (y :: g) p k = (if y.1 = p then (y.1,y.2.1,y.2.2 ++ [k]) else y) :: linkG g p k:=rfl
  rw [e,npOf_cons,npOf_cons,ih]
  by_cases q:y.1 = p <;> simp [q]
theorem succOf_bump (g:List An) (k:Ky) (j:Int) (x:Ky):succOf (bumpG g k j) x = succOf g x:=by
 rw [succ_shape,shape_bump,← succ_shape]
theorem succOf_link (g:List An) (p k x:Ky) (hp:p∈g.map (·.1)):succOf (linkG g p k) x = if x = p then succOf g x ++ [k] else succOf g x:=by
 induction g with
 | nil=>cases hp
 | cons y g ih =>
  have e:linkG (y :: g) p k = (if y.1 = p then (y.1,y.2.1,y.2.2 ++ [k]) else y) :: linkG g p k:=rfl
  rw [e,succOf_cons,succOf_cons]
  by_cases q:y.1 = p
  ·by_cases q2:y.1 = x
   ·simp [← q,q2]
   ·have q3:¬ x = p:=fun z=>q2 (q.trans z.symm)
    have q4:¬ p = x:=fun z=>q3 z.symm
    simp only [q,if_true,q3,q4,if_false]
    have:∀ g:List An,succOf (linkG g p k) x = succOf g x:=fun g=>by
     induction g with
     | nil=>rfl
     | cons z g ih2 =>
      have e:linkG (z :: g) p k = (if z.1 = p then (z.1,z.2.1,z.2.2 ++ [k]) else z) :: linkG g p k:=rfl
      rw [e,succOf_cons,succOf_cons,ih2]
      by_cases q5:z.1 = p
      ·simp [q5,q4]
      ·simp [q5]
    exact this g
  ·simp only [List.map_cons,List.mem_cons] at hp
   have hp':=hp.resolve_left fun z=>q z.symm
   rw [ih hp']
   by_cases q2:y.1 = x
   ·subst q2; simp [q]
   ·simp [q,q2]
theorem keys_bump (g:List An) (k:Ky) (j:Int):(bumpG g k j).map (·.1) = g.map (·.1):=by rw [← shape_keys,shape_bump,shape_keys]
theorem keys_link (g:List An) (p k:Ky):(linkG g p k).map (·.1) = g.map (·.1):=by
 unfold linkG; rw [List.map_map]; refine List.map_congr_left fun y o9=>?_
 simp only [Function.comp]; split <;> rfl
structure Built (V:List Ky) (E F:List (Ky×Ky)) (g:List An):Prop where
 keys:g.map (·.1) = V
 nd:V.Nodup
 succ:∀ k∈V,succOf g k = (E.filter fun e=>decide (e.1 = k)).map (·.2)
 np:∀ k∈V,npOf g k = some (((F.filter fun e=>decide (e.2 = k)).length:Nat):Int)
noncomputable def putV (V:List Ky) (k:Ky):List Ky:=if k∈V then V else V ++ [k]
theorem Built.nil:Built [] [] [] []:=⟨rfl,.nil,by simp,by simp⟩
theorem Built.ensure {V:List Ky} {E F:List (Ky×Ky)} {g:List An} (h:Built V E F g) (k:Ky) (hE:∀ e∈E,e.1∈V) (hF:∀ e∈F,e.2∈V):Built (putV V k) E F (ensureG g k):=by
 unfold putV ensureG
 by_cases q:k∈V
 ·rw [if_pos q,if_pos (by rw [h.keys]; exact q)]; exact h
 ·rw [if_neg q,if_neg (by rw [h.keys]; exact q)]
  refine ⟨by simp [h.keys],?_,fun x hx=>?_,fun x hx=>?_⟩
  ·exact List.nodup_append.mpr ⟨h.nd,by simp,fun a ha b hb e=>q (by simp at hb; rw [← hb,← e]; exact ha)⟩
  ·rw [succOf_app,h.keys]
   by_cases qx:x∈V
   ·rw [if_pos qx]; exact h.succ x qx
   ·rw [if_neg qx]
    have:x = k:=by simpa [qx] using hx
    subst this
    rw [succOf_cons,if_pos rfl]
    have:(E.filter fun e=>decide (e.1 = x)) = []:=by
     rw [List.filter_eq_nil_iff]; intro e he z; simp at z; exact qx (z ▸ hE e he)
    rw [this]; rfl
  ·rw [npOf_app,h.keys]
   by_cases qx:x∈V
   ·rw [if_pos qx]; exact h.np x qx
   ·rw [if_neg qx]
    have:x = k:=by simpa [qx] using hx
    subst this
    rw [npOf_cons,if_pos rfl]
    have:(F.filter fun e=>decide (e.2 = x)) = []:=by
     rw [List.filter_eq_nil_iff]; intro e he z; simp at z; exact qx (z ▸ hF e he)
    rw [this]; rfl
theorem Built.add {V:List Ky} {E:List (Ky×Ky)} {g:List An} (h:Built V E E g) (k:Ky) (ps:List Ky) (hE:∀ e∈E,e.1∈V∧e.2∈V) (hps:∀ p∈ps,p∈putV V k) :
  Built (putV V k) (E ++ ps.map fun p=>(p,k)) (E ++ ps.map fun p=>(p,k)) (addG g k ps):=by
 have h1:=h.ensure k (fun e he=>(hE e he).1) fun e he=>(hE e he).2
 have hk:k∈putV V k:=by unfold putV; by_cases q:k∈V <;> simp [q]
 generalize hV:putV V k = V' at *
 have h2:Built V' E (E ++ ps.map fun p=>(p,k)) (bumpG (ensureG g k) k ps.length):=by
  refine ⟨by rw [keys_bump]; exact h1.keys,h1.nd,fun x hx=>by rw [succOf_bump]; exact h1.succ x hx,fun x hx=>?_⟩
  rw [npOf_bump,h1.np x hx,List.filter_append,List.length_append]
  by_cases q:x = k
  ·subst q
   have:((ps.map fun p=>(p,x)).filter fun e=>decide (e.2 = x)) = ps.map fun p=>(p,x):=by
    rw [List.filter_eq_self]; intro e he; obtain ⟨p,_,rfl⟩:=List.mem_map.mp he; simp
   rw [this]; simp
  ·have:((ps.map fun p=>(p,k)).filter fun e=>decide (e.2 = x)) = []:=by
    rw [List.filter_eq_nil_iff]; intro e he; obtain ⟨p,_,rfl⟩:=List.mem_map.mp he; simpa using fun z=>q z.symm
   rw [this]; simp [q]
 unfold addG
 have gen:∀ (ps:List Ky) (E' F:List (Ky×Ky)) (g:List An),(∀ p∈ps,p∈V')→(∀ e∈E',e.1∈V')→(∀ e∈F,e.2∈V')→Built V' E' F g→Built V' (E' ++ ps.map fun p=>(p,k)) F (ps.foldl (fun g p=>linkG (ensureG g p) p k) g):=fun ps=>by
  induction ps with
  | nil=>intro E' F g o9 o9 o9 hb; simpa using hb
  | cons p ps ih =>
   intro E' F g hp hE' hF hb
   have hpV:=hp p (.head _)
   have e1:ensureG g p = g:=by unfold ensureG; rw [if_pos (by rw [hb.keys]; exact hpV)]
   rw [List.foldl_cons,e1,List.map_cons]
   have hb':Built V' (E' ++ [(p,k)]) F (linkG g p k):=by
    refine ⟨by rw [keys_link]; exact hb.keys,hb.nd,fun x hx=>?_,fun x hx=>by rw [npOf_link]; exact hb.np x hx⟩
    rw [succOf_link _ _ _ _ (by rw [hb.keys]; exact hpV),hb.succ x hx,List.filter_append]
    by_cases q:x = p
    ·subst q; simp
    ·have:¬ p = x:=fun z=>q z.symm
     simp [q,this]
   have:=ih (E' ++ [(p,k)]) F _ (fun x hx=>hp x (.tail _ hx)) (fun e he=>by
    rcases List.mem_append.mp he with he | he
    ·exact hE' e he
    ·simp at he; subst he; exact hpV) hF hb'
   simpa using this
 refine gen ps E _ _ hps (fun e he=>?_) (fun e he=>?_) h2
 ·have:=(hE e he).1
  rw [← hV]; unfold putV; split
  ·exact this
  ·simp [this]
 ·rcases List.mem_append.mp he with he | he
  ·have:=(hE e he).2
   rw [← hV]; unfold putV; split
   ·exact this
   ·simp [this]
  ·obtain ⟨p,_,rfl⟩:=List.mem_map.mp he; exact hk
theorem putV_old {V:List Ky} {k:Ky} (h:k∈V):putV V k = V:=if_pos h
theorem putV_new {V:List Ky} {k:Ky} (h:k∉V):putV V k = V ++ [k]:=if_neg h
end
section
open PySem
noncomputable def cntE (E:List (Ky×Ky)) (D:List Ky) (k:Ky):Nat:=(E.filter fun e=>decide (e.2 = k) && decide (e.1∉D)).length
structure Run (V:List Ky) (E:List (Ky×Ky)) (D O:List Ky) (B:Ab):Prop where
 keys:B.an.map (·.1) = V
 nd:V.Nodup
 ed:∀ e∈E,e.1∈V∧e.2∈V
 succ:∀ k∈V,succOf B.an k = (E.filter fun e=>decide (e.1 = k)).map (·.2)
 subD:∀ k∈D,k∈V
 subO:∀ k∈O,k∈V
 dO:∀ k∈O,k∉D
 ndD:D.Nodup
 ndO:O.Nodup
 npD:∀ k∈D,npOf B.an k = some (-2)
 npO:∀ k∈O,npOf B.an k = some (-1)
 npW:∀ k∈V,k∉D→k∉O→npOf B.an k = some ((cntE E D k:Nat):Int)
 zO:∀ k∈O,cntE E D k = 0
 zD:∀ k∈D,cntE E D k = 0
 rl:∀ k,k∈B.rl↔(k∈V∧k∉D∧k∉O∧cntE E D k = 0)
 rlnd:B.rl.Nodup
 out:B.out = ((D.length + O.length:Nat):Int)
 fin:B.fin = ((D.length:Nat):Int)
theorem readyG_mem {g:List An} (hn:(g.map (·.1)).Nodup) (k:Ky):k∈readyG g↔npOf g k = some 0:=by
 induction g with
 | nil=>simp [readyG,npOf_nil]
 | cons x g ih =>
  simp only [List.map_cons,List.nodup_cons] at hn
  have e:readyG (x :: g) = if x.2.1 = 0 then x.1 :: readyG g else readyG g:=by
   unfold readyG; rw [List.filter_cons]
   by_cases q:x.2.1 = 0 <;> simp [q]
  rw [e,npOf_cons]
  by_cases q:x.1 = k
  ·subst q
   rw [if_pos rfl]
   have hno:x.1∉readyG g:=fun z=>by
    have:=(ih hn.2).mp z
    rw [npOf_none hn.1] at this; (first | exact dNS this | exact dSN this | (obtain rfl:=Option.some.inj this) | cases this)
   by_cases q2:x.2.1 = 0
   ·simp [q2]
   ·simp [q2,hno]
  ·rw [if_neg q,← ih hn.2]
   have q':¬ k = x.1:=fun z=>q z.symm
   by_cases q2:x.2.1 = 0 <;> simp [q2,q']
theorem readyG_nd {g:List An} (hn:(g.map (·.1)).Nodup):(readyG g).Nodup:=by
 unfold readyG
 exact (List.filter_sublist.map _).nodup hn
theorem Run.start {V:List Ky} {E:List (Ky×Ky)} {g:List An} (h:Built V E E g) (ed:∀ e∈E,e.1∈V∧e.2∈V):Run V E [] [] ⟨g,readyG g,0,0⟩:=by
 have hn:(g.map (·.1)).Nodup:=by rw [h.keys]; exact h.nd
 have hc:∀ k,cntE E [] k = (E.filter fun e=>decide (e.2 = k)).length:=fun k=>by
  unfold cntE; congr 1; refine List.filter_congr fun e o9=>?_; simp
 refine ⟨h.keys,h.nd,ed,h.succ,by simp,by simp,by simp,.nil,.nil,by simp,by simp,fun k hk o9 o9=>by rw [hc]; exact h.np k hk,by simp,by simp,fun k=>?_,readyG_nd hn,by simp,by simp⟩
 show k∈readyG g↔_
 rw [readyG_mem hn]
 by_cases q:k∈V
 ·rw [h.np k q,hc]; simp [q]
 ·rw [npOf_none (by rw [h.keys]; exact q)]; simp [q]
theorem Run.closed {V:List Ky} {E:List (Ky×Ky)} {D O:List Ky} {B:Ab} (h:Run V E D O B):Closed B.an:=fun x hx k hk=>by
 rw [h.keys]
 have hxV:x.1∈V:=by rw [← h.keys]; exact List.mem_map.mpr ⟨x,hx,rfl⟩
 have e:succOf B.an x.1 = x.2.2:=by
  have hn:(B.an.map (·.1)).Nodup:=by rw [h.keys]; exact h.nd
  clear h hxV hk
  generalize B.an = g at hx hn
  induction g with
  | nil=>cases hx
  | cons y g ih =>
   simp only [List.map_cons,List.nodup_cons] at hn
   rw [succOf_cons]
   rcases List.mem_cons.mp hx with rfl | hx
   ·rw [if_pos rfl]
   ·rw [if_neg (fun z:y.1 = x.1=>hn.1 (by rw [z]; exact List.mem_map.mpr ⟨x,hx,rfl⟩))]; exact ih hx hn.2
 rw [← e,h.succ _ hxV] at hk
 obtain ⟨ed,he,rfl⟩:=List.mem_map.mp hk
 exact (h.ed ed (List.mem_filter.mp he).1).2
end
section
variable {K:Kx} (H:Here K)
include H
end
structure Small (V:List Ky) (E:List (Ky×Ky)):Prop where
 v:V.length≤300
 o:∀ k,(E.filter fun e=>decide (e.1 = k)).length≤400
inductive HR (V:List Ky) (E:List (Ky×Ky)) (D O:List Ky) (a:Addr) (S:Cs):Prop
 | mk (T:SS) (r:Addr) (B:Ab) (h:Holds S T r B) (e:T.a = a) (run:Run V E D O B)
inductive HU (V:List Ky) (E:List (Ky×Ky)) (a:Addr) (S:Cs):Prop
 | mk (T:SS) (h:Sorter S T) (e:T.a = a) (rl:T.rl = none) (out:T.out = 0) (fin:T.fin = 0) (b:Built V E E T.an) (m:∀ e∈E,e.1∈V∧e.2∈V)
theorem HU.len {V:List Ky} {E:List (Ky×Ky)} {a:Addr} {S:Cs} {T:SS} (h:Built V E E T.an):T.nodes.length = V.length:=by
 rw [← h.keys,an_keys,List.length_map]
theorem built_succ {V:List Ky} {E:List (Ky×Ky)} {T:SS} (h:Built V E E T.an) (hk:(T.nodes.map (·.key)).Nodup):∀ x∈T.nodes,x.succ.length≤(E.filter fun e=>decide (e.1 = x.key)).length:=fun x hx=>by
 rcases npOf_nodes (k:=x.key) (l:=T.nodes) with ⟨y,hy,e1,_,_,e2⟩ | ⟨h1,_⟩
 ·have:=key_inj hk hy hx e1; subst this
  have hV:y.key∈V:=by rw [← h.keys,an_keys]; exact List.mem_map.mpr ⟨y,hy,rfl⟩
  have e3:=h.succ y.key hV
  have e4:succOf (T.nodes.map Nd.an) y.key = y.succ:=e2
  have e5:succOf T.an y.key = y.succ:=e4
  rw [← e5,e3,List.length_map]; exact Nat.le_refl _
 ·exact absurd (List.mem_map.mpr ⟨x,hx,rfl⟩) h1
noncomputable def gE (E:List (Ky×Ky)) (k:Ky):List Ky:=(E.filter fun e=>decide (e.1 = k)).map (·.2)
theorem mem_gE {E:List (Ky×Ky)} {u v:Ky}:v∈gE E u↔(u,v)∈E:=by
 unfold gE
 rw [List.mem_map]
 constructor
 ·rintro ⟨e,he,rfl⟩
  obtain ⟨h1,h2⟩:=List.mem_filter.mp he
  rw [← of_decide_eq_true h2]; exact h1
 ·intro h; exact ⟨(u,v),List.mem_filter.mpr ⟨h,by simp⟩,rfl⟩
theorem succ_gE {V:List Ky} {E:List (Ky×Ky)} {g:List An} (h:Built V E E g) (hm:∀ e∈E,e.1∈V∧e.2∈V):succOf g = gE E:=funext fun u=>by
 by_cases hu:u∈V
 ·exact h.succ u hu
 ·have e1:succOf g u = []:=by
   rw [succ_shape]
   have:(shape g).find? (fun x=>x.1 = u) = none:=by
    rw [List.find?_eq_none]; intro x hx z
    simp at z
    apply hu
    rw [← h.keys,← shape_keys,← z]
    exact List.mem_map.mpr ⟨x,hx,rfl⟩
   rw [this]; rfl
  have e2:gE E u = []:=by
   cases e:gE E u with
   | nil=>rfl
   | cons v r=>exact absurd (hm _ (mem_gE.mp (e ▸ List.mem_cons_self:v∈gE E u))).1 hu
  rw [e1,e2]
section
variable {K:Kx} (H:Here K)
include H
theorem meth87:MethF K 137 "add" 87:=meth_at H (by decide)
theorem meth92:MethF K 137 "prepare" 92:=meth_at H (by decide)
theorem we_sorter {n:Nat} {sc:Scope} {ρ:Rho} {S:Cs} {np pos:Pos} {Q:D→Cs→Prop} (h:∀ a S',HU [] [] a S'→Q (.ref a) S') (hk:sc.names.lookup ("TopologicalSorter":Str) = some .globalImplicit:=by rfl) :
  WE (n + 3) K (CR K) sc ρ S (.Call (.Name "TopologicalSorter" np) [] [] pos) Q:=by
 refine WEX.no (wex_new (C:=137) (H.gl _ _ rfl) (keep137 H) (wes_nil (wcall_make (make137 H) fun a da ha hda hne=>?_)) hk)
 refine (init137 (n:=n + 1) H (Cs.put_self ..) ((Cs.put_ne _ _ hne.symm).trans (Cs.put_self ..))).mono fun r S' hp0=>?_
 obtain ⟨hr,T,h1,h2,h3,h4,h5,h6⟩:=hp0
 subst hr
 refine ⟨rfl,h a S' ⟨T,h1,h2,h4,h5,h6,?_,by simp⟩⟩
 have:T.an = []:=by unfold SS.an; rw [h3]; rfl
 rw [this]; exact Built.nil
theorem hu_add {n:Nat} {S:Cs} {a:Addr} {V:List Ky} {E:List (Ky×Ky)} {k:Ky} {ps:List Ky} (h:HU V E a S) (hsz:Small V E) (hp:ps.length≤80) (hps:∀ p∈ps,p∈putV V k) :
  ∃ da,S a = some (.inst 137 da [])∧(∃ T:SS,S da = some (.attrs T.attrs))∧WCall (n + 4) K (CR K) S (.ref 87) ([.ref a,.py k.d] ++ (ps.map Ky.d).map D.py) fun r S'=>r = .val .none∧HU (putV V k) (E ++ ps.map fun p=>(p,k)) a S':=by
 obtain ⟨T,h1,h2,h3,h4,h5,h6,h7⟩:=h
 have hlen:=HU.len (a:=a) (S:=S) h6
 have ad:=add87 (n:=n) (k:=k) (ps:=ps) H h1 h3 (by rw [hlen]; have:=hsz.v; (first | lia | omega)) fun z hz=>by have:=Nat.le_trans (built_succ h6 h1.keys z hz) (hsz.o z.key); (first | lia | omega)
 rw [h2] at ad
 refine ⟨T.da,h2 ▸ h1.inst,⟨T,h1.attrs⟩,WCall.mono ad fun r S' hp0=>?_⟩
 obtain ⟨hr,T',g1,g2,g3,g4,g5,g6⟩:=hp0
 refine ⟨hr,T',g1,g2,g3,g4.trans h4,g5.trans h5,g6 ▸ h6.add k ps h7 hps,fun e he=>?_⟩
 have sub:∀ z∈V,z∈putV V k:=fun z hz=>by unfold putV; split <;> simp [hz]
 have hk:k∈putV V k:=by unfold putV; split <;> simp [*]
 rcases List.mem_append.mp he with he | he
 ·exact ⟨sub _ (h7 e he).1,sub _ (h7 e he).2⟩
 ·obtain ⟨p,hp,rfl⟩:=List.mem_map.mp he
  exact ⟨hps p hp,hk⟩
theorem wex_add {n:Nat} {sc:Scope} {ρ:Rho} {S:Cs} {x:Str} {np ap cp:Pos} {es:List Expr} {a:Addr} {V:List Ky} {E:List (Ky×Ky)} {k:Ky} {ps:List Ky} {Q:D→Cs→Prop} (hx:ρ.lookup x = some (.val (.ref a))) (h:HU V E a S) (hsz:Small V E)
  (v:VEs (n + 4) K (CR K) sc ρ S es (.py k.d :: (ps.map Ky.d).map D.py)) (hp:ps.length≤80) (hps:∀ p∈ps,p∈putV V k) (q:∀ S',HU (putV V k) (E ++ ps.map fun p=>(p,k)) a S'→Q .none S')
  (hs:es.any isStarred = false:=by rfl) (hdb:(x == ("__debug__":Str)) = false:=by rfl) (hline:(ap.endLine == cp.line) = true:=by rfl)
  (hfew:∀ env,((backTo cp (starEach es env)).all (fun x=>!x.1) && (backToKw cp (keywordEach [] env)).all (fun x=>x.1.isSome) && decide (es.length + ([]:List Keyword).length + (if ([]:List Keyword).isEmpty then 0 else 1) < 30)) = true:=by intro o9; rfl) :
  WE (n + 4) K (CR K) sc ρ S (.Call (.Attribute (.Name x np) "add" ap) es [] cp) Q:=by
 obtain ⟨da,hi,⟨T,ht⟩,w⟩:=hu_add (n:=n) H h hsz hp hps
 exact WEX.no (wex_meth (a:=a) (C:=137) hx (cls137 H) (meth87 H) (fn87 H) hi ht rfl (v _ (w.mono fun r S' hp0=>by obtain ⟨e,g⟩:=hp0; subst e; exact q S' g)) hs hdb hline hfew)
theorem hu_prepare {n:Nat} {S:Cs} {a:Addr} {V:List Ky} {E:List (Ky×Ky)} (h:HU V E a S) (hsz:V.length≤700) :
  ∃ da,S a = some (.inst 137 da [])∧(∃ T:SS,S da = some (.attrs T.attrs))∧WCall (n + 5) K (CR K) S (.ref 92) [.ref a] fun q S'=>∃ res,Finds (gE E) V [] res∧q = prepRet res∧HR V E [] [] a S':=by
 obtain ⟨T,h1,h2,h3,h4,h5,h6,h7⟩:=h
 have hlen:=HU.len (a:=a) (S:=S) h6
 have run:=Run.start h6 h7
 have pr:=prepare92 (n:=n) H h1 h3 run.closed (by rw [hlen]; grows_one)
 have ek:T.nodes.map (·.key) = V:=by rw [← h6.keys,an_keys]
 rw [h2,succ_gE h6 h7,ek] at pr
 refine ⟨T.da,h2 ▸ h1.inst,⟨T,h1.attrs⟩,pr.mono fun q S' hp0=>?_⟩
 obtain ⟨res,e1,e2,r',T',g1,g2⟩:=hp0
 refine ⟨res,e1,e2,T',r',_,g1,g2,?_⟩
 rw [h4,h5]; exact run
end
section
variable {K:Kx} (H:Here K)
include H
end
section
variable {steps:List (Nat×Nat)} {free D L:List Nat}
end
section
variable {steps:List (Nat×Nat)} {free D L P S:List Nat}
end
section
open PySem
inductive Topo (g:Ky→List Ky):List Ky→Prop
 | nil:Topo g []
 | snoc {F:List Ky} {u:Ky} (h:Topo g F) (s:∀ y∈g u,y∈F):Topo g (F ++ [u])
noncomputable def Under (g:Ky→List Ky) (F:List Ky):Fst→Ky→Prop
 | [],_=>True
 | (u,i) :: rest,w=>(∃ j,i = j + 1∧(g u)[j]? = some w∧∀ k x,k < j→(g u)[k]? = some x→x∈F)∧Under g F rest u
noncomputable def Ready (g:Ky→List Ky) (F:List Ky):Fst→Prop
 | []=>True
 | (u,i) :: rest=>(∀ k x,k < i→(g u)[k]? = some x→x∈F)∧Under g F rest u
section
variable {g:Ky→List Ky}
theorem Under.mono {F F':List Ky} (h:∀ k∈F,k∈F') {st:Fst}:∀ {w:Ky},Under g F st w→Under g F' st w:=by
 induction st with
 | nil=>exact fun o9=>trivial
 | cons p rest ih =>
  intro w q
  obtain ⟨⟨j,e,a,b⟩,r⟩:=q
  exact ⟨⟨j,e,a,fun k x hk hx=>h _ (b k x hk hx)⟩,ih r⟩
theorem Under.ready {F:List Ky} {st:Fst} {w:Ky} (h:Under g F st w) (hw:w∈F):Ready g F st:=by
 cases st with
 | nil=>trivial
 | cons p rest =>
  obtain ⟨⟨j,e,a,b⟩,r⟩:=h
  exact ⟨fun k x hk hx=>by
   by_cases q:k = j
   ·rw [q,a] at hx; exact Option.some.inj hx ▸ hw
   ·exact b k x (Nat.lt_of_le_of_ne (Nat.le_of_lt_succ (Nat.lt_of_lt_of_eq hk e)) q) hx,r⟩
theorem popTo_topo {st:Fst}:∀ {F:List Ky},Topo g F→Ready g F st→(popTo g st = none→∃ F',Topo g F'∧∀ k,k∈F'↔k∈F∨k∈keysOf st)∧∀ w st',popTo g st = some (w,st')→∃ F',Topo g F'∧Under g F' st' w∧∀ k,(k∈F'∨k∈keysOf st')↔k∈F∨k∈keysOf st:=by
 induction st with
 | nil=>exact fun {F} t o9=>⟨fun o9=>⟨F,t,fun k=>⟨.inl,fun z=>z.elim id fun z=>nomatch z⟩⟩,fun w st' e=>nomatch e⟩
 | cons p rest ih =>
  intro F t h
  obtain ⟨u,i⟩:=p
  unfold popTo
  cases e:(g u)[i]? with
  | some x=>refine ⟨fun z=>dSN z,fun w st' z=>?_⟩; cases z; exact ⟨F,t,⟨⟨i,rfl,e,h.1⟩,h.2⟩,fun k=>Iff.rfl⟩
  | none =>
   have hl:=List.getElem?_eq_none_iff.mp e
   have t2:Topo g (F ++ [u]):=.snoc t fun y hy=>by
    obtain ⟨k,hk,e⟩:=List.mem_iff_getElem.mp hy
    exact h.1 k y (Nat.lt_of_lt_of_le hk hl) (e ▸ List.getElem?_eq_getElem hk)
   have key:∀ k,(k∈F ++ [u]∨k∈keysOf rest)↔k∈F∨k∈keysOf ((u,i) :: rest):=fun k=>by
    show _↔k∈F∨k∈u :: keysOf rest
    rw [List.mem_append,List.mem_singleton,List.mem_cons,or_assoc]
   obtain ⟨i1,i2⟩:=ih t2 ((h.2.mono fun k hk=>List.mem_append_left _ hk).ready (List.mem_append_right _ (.head _)))
   exact ⟨fun z=>let ⟨F',a,b⟩:=i1 z; ⟨F',a,fun k=>(b k).trans (key k)⟩,fun w st' z=>let ⟨F',a,b,c⟩:=i2 w st' z; ⟨F',a,b,fun k=>(c k).trans (key k)⟩⟩
theorem Under.top {seen F:List Ky} {st:Fst} {v:Ky} (u:Under g F st v) (n:¬ (v∈seen∧v∈keysOf st)) (hs:∀ k,k∈seen↔k∈F∨k∈keysOf st):Ready g F (topR seen st v).2:=by
 unfold topR
 by_cases q:v∈seen
 ·rw [if_pos q]; exact u.ready (((hs v).mp q).resolve_right fun z=>n ⟨q,z⟩)
 ·rw [if_neg q]; exact ⟨fun k x hk=>absurd hk (Nat.not_lt_zero _),u⟩
theorem Runs.topo {seen:List Ky} {st:Fst} {v:Ky} {r:Sum (List Ky) (List Ky)} (h:Runs g seen st v r):∀ {seen' F:List Ky},r = .inr seen'→Topo g F→Under g F st v→(∀ k,k∈seen↔k∈F∨k∈keysOf st)→(∃ F',Topo g F'∧∀ k,k∈seen'↔k∈F')∧(∀ k∈seen,k∈seen')∧v∈seen':=by
 induction h with
 | stop e =>
  intro seen' F q t u hs
  subst q
  obtain ⟨n,h1,h2⟩:=stepR_end e
  obtain ⟨F',a,b⟩:=(popTo_topo t (u.top n hs)).1 h2
  subst h1
  exact ⟨⟨F',a,fun k=>(topR_all hs k).trans (b k).symm⟩,fun k z=>topR_seen.mpr (.inl z),topR_seen.mpr (.inr rfl)⟩
 | go e _ ih =>
  intro seen' F q t u hs
  obtain ⟨n,h1,h2⟩:=stepR_go e
  obtain ⟨F',a,b,c⟩:=(popTo_topo t (u.top n hs)).2 _ _ h2
  obtain ⟨i1,i2,_⟩:=ih q a b fun k=>h1 ▸ (topR_all hs k).trans (c k).symm
  exact ⟨i1,fun k z=>i2 k (h1 ▸ topR_seen.mpr (.inl z)),i2 _ (h1 ▸ topR_seen.mpr (.inr rfl))⟩
theorem Finds.topo {vs seen:List Ky} {r:Option (List Ky)} (h:Finds g vs seen r):∀ {F:List Ky},r = none→Topo g F→(∀ k,k∈seen↔k∈F)→∃ F',Topo g F'∧(∀ k∈seen,k∈F')∧∀ v∈vs,v∈F':=by
 induction h with
 | nil=>intro F o9 t hs; exact ⟨F,t,fun k hk=>(hs k).mp hk,fun v hv=>by cases hv⟩
 | skip h1 _ ih =>
  intro F e t hs
  obtain ⟨F',a,b,c⟩:=ih e t hs
  exact ⟨F',a,b,fun v hv=>by
   rcases List.mem_cons.mp hv with rfl | hv
   ·exact b _ h1
   ·exact c v hv⟩
 | ring _ _=>intro F e; cases e
 | done h1 h2 _ ih =>
  intro F e t hs
  obtain ⟨⟨F1,t1,h1'⟩,s1,s2⟩:=h2.topo rfl t trivial fun k=>(hs k).trans ⟨.inl,fun z=>z.elim id fun z=>(by cases z)⟩
  obtain ⟨F',a,b,c⟩:=ih e t1 h1'
  exact ⟨F',a,fun k hk=>b k (s1 k hk),fun v hv=>by
   rcases List.mem_cons.mp hv with rfl | hv
   ·exact b _ s2
   ·exact c v hv⟩
theorem Topo.inside {F:List Ky} (h:Topo g F):∀ u∈F,∀ v∈g u,v∈F:=by
 induction h with
 | nil=>intro u hu; cases hu
 | @snoc F u t s ih =>
  intro x hx v hv
  rcases List.mem_append.mp hx with w | w
  ·exact List.mem_append_left _ (ih x w v hv)
  ·rw [List.mem_singleton.mp w] at hv; exact List.mem_append_left _ (s v hv)
theorem Topo.rank {F:List Ky} (h:Topo g F):∀ u∈F,∀ v∈g u,F.findIdx (· == v) < F.findIdx (· == u):=by
 induction h with
 | nil=>intro u hu; cases hu
 | @snoc F u t s ih =>
  have key:∀ x,x∈F→(F ++ [u]).findIdx (· == x) = F.findIdx (· == x):=fun x hx=>findIdx_app hx _
  have lt:∀ x,x∈F→F.findIdx (· == x) < F.length:=fun x hx=>List.findIdx_lt_length_of_exists ⟨x,hx,by simp⟩
  intro x hx v hv
  by_cases q:x∈F
  ·have hvF:=t.inside x q v hv
   rw [key v hvF,key x q]; exact ih x q v hv
  ·rcases List.mem_append.mp hx with w | w
   ·exact absurd w q
   ·have e:=List.mem_singleton.mp w
    subst e
    have:=findIdx_new q
    rw [this,key v (s v hv)]
    exact lt v (s v hv)
end
end
noncomputable def nm:Nat→Ky
 | 0=>.i 0
 | 1=>.t "0"
 | 2=>.i (-1)
 | 3=>.t ""
 | 4=>.i 7
 | v + 5=>.i ((v:Int) + 100)
noncomputable def Ky.chk:Ky→Bool
 | .i z=>decide (z.natAbs.log2 < 1920) && decide ((Str.ofString (toString z)).length≤50)
 | .t x=>PyData.strOk x && decide (x.length≤50) && decide ((reprText x).length≤50)
theorem nm_all:(List.range 5).all (fun v=>(nm v).chk && PyData.strOk (reprK (nm v))) = true:=by decide +kernel
theorem nm_chk {v:Nat} (h:v < 5):(nm v).chk = true∧PyData.strOk (reprK (nm v)) = true:=by
 have:=List.all_eq_true.mp nm_all v (by simpa using h)
 simpa using this
theorem nm_sh {v:Nat} (h:v < 5) {m:Nat}:Sh m (nm v).d:=by
 have h:=(nm_chk h).1
 revert h
 cases nm v with
 | i z=>intro o9; exact .int
 | t x =>
  intro h
  unfold Ky.chk at h
  simp only [Bool.and_eq_true] at h
  exact .str h.1.1
theorem nm_inj {u v:Nat} (e:nm u = nm v):u = v:=by
 have big:∀ u,5≤u→nm u = .i ((u:Int) + 95):=fun u h=>by
  obtain ⟨w,rfl⟩:=Nat.exists_eq_add_of_le' h
  rfl
 have low:∀ u,u < 5→∀ z,nm u = .i z→z < 8:=fun u h z e=>by
  match u,h with
  | 0,_=>cases e; decide
  | 1,_=>cases e
  | 2,_=>cases e; decide
  | 3,_=>cases e
  | 4,_=>cases e; decide
 have same:∀ u,u < 5→∀ v,v < 5→nm u = nm v→u = v:=by decide
 rcases Nat.lt_or_ge u 5 with h1 | h1 <;> rcases Nat.lt_or_ge v 5 with h2 | h2
 ·exact same u h1 v h2 e
 ·have:=low u h1 _ (e.trans (big v h2)); dict_keeps
 ·have:=low v h2 _ (e.symm.trans (big u h1)); dict_keeps
 ·rw [big u h1,big v h2] at e
  injection e with e; dict_keeps
theorem eqv_ky (a b:Ky):PyData.eqv a.d b.d = decide (a = b):=by
 cases a with
 | i z=>cases b with
  | i y=>show (z == y) = _; by_cases h:z = y <;> simp [h]
  | t y=>show false = _; simp
 | t x=>cases b with
  | i y=>show false = _; simp
  | t y=>show (x == y) = _; by_cases h:x = y <;> simp [h]
noncomputable def kN (l:List Nat):List Ky:=l.map nm
noncomputable def nD (l:List Nat):List PyData:=l.map fun v=>(nm v).d
theorem kN_d (l:List Nat):(kN l).map Ky.d = nD l:=by unfold kN nD; rw [List.map_map]; rfl
theorem mem_kN {l:List Nat} {v:Nat}:nm v∈kN l↔v∈l:=by
 unfold kN; rw [List.mem_map]
 exact ⟨fun ⟨u,hu,e⟩=>nm_inj e ▸ hu,fun h=>⟨v,h,rfl⟩⟩
theorem nD_len (l:List Nat):(nD l).length = l.length:=List.length_map ..
theorem nD_names {n:Nat} (h:n≤5):([.int 0,.str "0",.int (-1),.str "",.int 7]:List PyData).take n = nD (List.range n):=by
 match n,h with
 | 0,_=>rfl
 | 1,_=>rfl
 | 2,_=>rfl
 | 3,_=>rfl
 | 4,_=>rfl
 | 5,_=>rfl
theorem sh_nD {l:List Nat} (h:∀ v∈l,v < 5) {m:Nat}:ShAll m (nD l):=.of fun d hd=>by obtain ⟨v,hv,rfl⟩:=List.mem_map.mp hd; exact nm_sh (h v hv)
theorem nD_at {l:List Nat} {i v:Nat} (h:l[i]? = some v):(nD l)[i]? = some (nm v).d:=by unfold nD; rw [List.getElem?_map,h]; rfl
noncomputable def kE (steps:List (Nat×Nat)):List (Ky×Ky):=steps.map fun s=>(nm s.1,nm s.2)
theorem unnm {l:List Nat}:∀ {ks:List Ky},(∀ k∈ks,k∈kN l)→∃ L:List Nat,ks = kN L
 | [],_=>⟨[],rfl⟩
 | k :: ks,h=>by
  obtain ⟨v,_,e⟩:=List.mem_map.mp (h k (.head _))
  obtain ⟨L,e2⟩:=unnm (ks:=ks) fun x hx=>h x (.tail _ hx)
  exact ⟨v :: L,by rw [e2,← e]; rfl⟩
structure SB (a₀:Array Keyed) (st:SortSt):Prop where
 perm:(arrOf st).Perm a₀
 kind:kindOf st = oneType'
 ok:failedOf st = none
noncomputable def Dst (xs:Array Keyed):Prop:=(xs.toList.map fun p=>numOf p.1).Nodup
noncomputable def Seg (xs:Array Keyed) (lo hi:Nat):Prop:=∀ i j,lo≤i→i≤j→j < hi→K xs i≤K xs j
theorem K_get {xs:Array Keyed} {i:Nat} (h:i < xs.size):K xs i = numOf xs[i].1:=by unfold K; rw [Array.getElem?_eq_getElem h]
theorem Dst.ne {xs:Array Keyed} (h:Dst xs) {i j:Nat} (hi:i < xs.size) (hj:j < xs.size) (hne:i≠j):K xs i≠K xs j:=by
 intro e
 rw [K_get hi,K_get hj] at e
 exact hne ((List.getElem_inj (xs:=xs.toList.map fun p:Keyed=>numOf p.1) (h₀:=by simpa using hi) (h₁:=by simpa using hj) h).mp (by simpa using e))
theorem Dst.perm {xs ys:Array Keyed} (h:Dst ys) (p:xs.Perm ys):Dst xs:=(((Array.perm_iff_toList_perm.mp p).map _).nodup_iff).mpr h
theorem SB.size {a₀:Array Keyed} {st:SortSt} (h:SB a₀ st):(arrOf st).size = a₀.size:=h.perm.size_eq
theorem SB.at {a₀:Array Keyed} {st:SortSt} (h:SB a₀ st) (h0:IntKeys a₀) {i:Nat} (hi:i < a₀.size):∃ t q,(arrOf st)[i]? = some (.int (K (arrOf st) i) t,q):=by
 have hi':i < (arrOf st).size:=by rw [h.size]; exact hi
 obtain ⟨n,t,hn⟩:=h0 (arrOf st)[i] ((Array.perm_iff_toList_perm.mp h.perm).mem_iff.mp (by simp))
 have e:(arrOf st)[i]? = some (arrOf st)[i]:=Array.getElem?_eq_getElem hi'
 refine ⟨t,(arrOf st)[i].2,?_⟩
 rw [e,K_get hi']
 exact congrArg some (Prod.ext (by rw [hn]; rfl) rfl)
theorem SB.set {a₀:Array Keyed} {st:SortSt} (h:SB a₀ st) {xs:Array Keyed} (p:xs.Perm (arrOf st)):SB a₀ (setArr st xs):=⟨p.trans h.perm,h.kind,h.ok⟩
theorem wps_pos {σ α:Type} {M:Model} {A:Around} {E:Value→Shared→Prop} {s:Shared} {c:Prop} [Decidable c] {a b:StateT σ Sem α} {Q:α→σ→Prop} {st:σ} (hc:c) (h:wpS M A E s a Q st):wpS M A E s (if c then a else b) Q st:=by rw [if_pos hc]; exact h
theorem wps_neg {σ α:Type} {M:Model} {A:Around} {E:Value→Shared→Prop} {s:Shared} {c:Prop} [Decidable c] {a b:StateT σ Sem α} {Q:α→σ→Prop} {st:σ} (hc:¬ c) (h:wpS M A E s b Q st):wpS M A E s (if c then a else b) Q st:=by rw [if_neg hc]; exact h
section
variable {prog:Program} {w:World} {A:Around} {E:Value→Shared→Prop} {s:Shared} {a₀:Array Keyed}
theorem lt_at {st:SortSt} {i j:Nat} {Q:Option Bool→SortSt→Prop} (hB:SB a₀ st) (h0:IntKeys a₀) (hi:i < a₀.size) (hj:j < a₀.size) (h:Q (some (decide (K (arrOf st) i < K (arrOf st) j))) st):wpS (model prog w) A E s (ltAt' i j) Q st:=by
 obtain ⟨t,p,e1⟩:=hB.at h0 hi
 obtain ⟨u,q,e2⟩:=hB.at h0 hj
 exact wpS_ltAt hB.kind e1 e2 h
theorem mir_at {lo n t:Nat} (h:t < n):lo + (lo + n) - 1 - (lo + t) = lo + (n - 1 - t):=by
 obtain ⟨u,rfl⟩:=Nat.exists_eq_add_of_le h
 rw [Nat.succ_add]
 show lo + (lo + (t + u)) - (lo + t) = lo + (t + u - t)
 rw [← Nat.add_assoc lo t u,Nat.add_left_comm,Nat.add_sub_cancel_left,Nat.add_sub_cancel_left]
theorem count_run {st:SortSt} {lo nrem:Nat} {Q:Option Nat→SortSt→Prop} (h0:IntKeys a₀) (hd:Dst a₀) (hn:lo + nrem = a₀.size) (h1:1≤nrem) (hB:SB a₀ st)
  (h:∀ m xs,xs.Perm (arrOf st)→1≤m→m≤nrem→(∀ k,k < lo→K xs k = K (arrOf st) k)→Seg xs lo (lo + m)→Q (some m) (setArr st xs)):wpS (model prog w) A E s (countRun' lo nrem) Q st:=by
 rw [countRun'_eq]
 have hdst:=hd.perm hB.perm
 have hsz:=hB.size
 refine wpS_bind (wpS_mono (wpS_forRange (I:=fun x c st'=>st' = st∧c = (none,x)∧Seg (arrOf st) lo (lo + x)) (Q:=fun c st'=>st' = st∧∃ n,c = (none,n)∧1≤n∧n≤nrem∧Seg (arrOf st) lo (lo + n)∧(n < nrem→K (arrOf st) (lo + n) < K (arrOf st) (lo + n - 1))) ?step ?fin ⟨rfl,rfl,fun i j a b c=>?init⟩) ?post)
 case init =>
  have:i = j:=by dict_keeps
  rw [this]; exact Int.le_refl _
 case fin =>
  rintro c st' ⟨e1,e2,e3⟩
  rw [Nat.max_eq_right h1] at e2 e3
  exact ⟨e1,nrem,e2,h1,Nat.le_refl _,e3,fun z=>absurd z (Nat.lt_irrefl _)⟩
 case step =>
  rintro x c st' hx1 hx2 ⟨e1,e2,e3⟩
  subst e1 e2
  dsimp only
  refine wpS_bind (lt_at hB h0 (by dict_keeps) (by dict_keeps) ?_)
  by_cases hlt:K (arrOf st') (lo + x) < K (arrOf st') (lo + x - 1)
  ·refine wps_pos (decide_eq_true hlt) ?_
   exact wpS_pure ⟨rfl,x,rfl,hx1,by dict_keeps,e3,fun o9=>hlt⟩
  ·refine wps_neg (fun z=>hlt (of_decide_eq_true z)) ?_
   refine wpS_pure ⟨rfl,rfl,fun i j a b c=>?_⟩
   by_cases q:j < lo + x
   ·exact e3 i j a b q
   ·have ej:j = lo + x:=by dict_keeps
    subst ej
    by_cases qi:i = lo + x
    ·rw [qi]; exact Int.le_refl _
    ·have:=e3 i (lo + x - 1) a (by dict_keeps) (by dict_keeps)
     dict_keeps
 case post =>
  rintro c st' ⟨e1,n,e2,n1,n2,sg,brk⟩
  subst e1 e2
  dsimp only
  by_cases hn1:n = nrem
  ·refine wps_pos (by simpa using hn1) ?_
   exact wpS_pure (h n (arrOf st') (Array.Perm.refl _) n1 n2 (fun o9 o9=>rfl) sg)
  ·refine wps_neg (by simpa using hn1) ?_
   by_cases hn2:n > 1
   ·refine wps_pos hn2 ?_
    refine wpS_bind (lt_at hB h0 (by dict_keeps) (by dict_keeps) ?_)
    have lt:K (arrOf st') lo < K (arrOf st') (lo + n - 1):=by
     have h1:=sg lo (lo + n - 1) (Nat.le_refl _) (by dict_keeps) (by dict_keeps)
     have h2:=hdst.ne (i:=lo) (j:=lo + n - 1) (by dict_keeps) (by dict_keeps) (by dict_keeps)
     dict_keeps
    refine wps_pos (decide_eq_true lt) ?_
    exact wpS_pure (h n (arrOf st') (Array.Perm.refl _) n1 n2 (fun o9 o9=>rfl) sg)
   ·refine wps_neg hn2 ?_
    have e1:n = 1:=by dict_keeps
    subst e1
    have hlt:=brk (by dict_keeps)
    refine wpS_bind (wpS_lift (wpAny_rule ⟨rfl,?_⟩))
    refine wpS_bind (wpS_mono (wpS_forRange (I:=fun x c st=>st = st'∧c = (none,x,0)∧∀ i j,i < j→j < x→K (arrOf st') (lo + j) < K (arrOf st') (lo + i)) (Q:=fun c st=>st = st'∧∃ n,c = (none,n,0)∧2≤n∧n≤nrem∧∀ i j,i < j→j < n→K (arrOf st') (lo + j) < K (arrOf st') (lo + i)) ?step2 ?fin2 ⟨rfl,rfl,fun i j b c=>?init2⟩) ?post2)
    case init2 =>
     obtain rfl:j = 1:=Nat.le_antisymm (Nat.le_of_lt_succ c) (Nat.lt_of_le_of_lt (Nat.zero_le _) b)
     obtain rfl:i = 0:=Nat.lt_one_iff.mp b
     exact hlt
    case fin2 =>
     rintro c st ⟨e1,e2,e3⟩
     rw [Nat.max_eq_right (by dict_keeps)] at e2 e3
     exact ⟨e1,nrem,e2,by dict_keeps,Nat.le_refl _,e3⟩
    case step2 =>
     rintro x c st hx1 hx2 ⟨e1,e2,e3⟩
     subst e1 e2
     dsimp only
     refine wpS_bind (lt_at hB h0 (by dict_keeps) (by dict_keeps) ?_)
     by_cases hl2:K (arrOf st) (lo + x) < K (arrOf st) (lo + x - 1)
     ·refine wps_pos (decide_eq_true hl2) ?_
      refine wps_neg (by dict_keeps) ?_
      obtain ⟨x,rfl⟩:=Nat.exists_eq_add_of_le' (Nat.le_of_succ_le hx1)
      refine wpS_pure ⟨rfl,rfl,fun i j b c=>?_⟩
      rcases Nat.lt_or_ge j (x + 1) with q | q
      ·exact e3 i j b q
      ·obtain rfl:j = x + 1:=Nat.le_antisymm (Nat.le_of_lt_succ c) q
       rcases Nat.lt_or_ge i x with qi | qi
       ·exact Int.lt_trans hl2 (e3 i x qi (Nat.lt_succ_self _))
       ·obtain rfl:i = x:=Nat.le_antisymm (Nat.le_of_lt_succ b) qi
        exact hl2
     ·refine wps_neg (fun z=>hl2 (of_decide_eq_true z)) ?_
      refine wpS_bind (lt_at hB h0 (by dict_keeps) (by dict_keeps) ?_)
      have hl3:K (arrOf st) (lo + x - 1) < K (arrOf st) (lo + x):=by
       have:=hdst.ne (i:=lo + x) (j:=lo + x - 1) (by dict_keeps) (by dict_keeps) (by dict_keeps)
       dict_keeps
      refine wps_pos (decide_eq_true hl3) ?_
      exact wpS_pure ⟨rfl,x,rfl,by dict_keeps,by dict_keeps,e3⟩
    case post2 =>
     rintro c st ⟨e1,n,e2,n3,n4,dec⟩
     subst e1 e2
     dsimp only
     rw [if_neg (by dict_keeps),reverseSlice'_eq]
     refine wpS_bind (wpS_modify ?_)
     have hm:∀ k,K (mirror (arrOf st) lo (lo + n) ((lo + n - lo) / 2)) k = if lo≤k∧k < lo + n then K (arrOf st) (lo + (lo + n) - 1 - k) else K (arrOf st) k:=K_mirror (by dict_keeps)
     generalize hxs:mirror (arrOf st) lo (lo + n) ((lo + n - lo) / 2) = xs at hm ⊢
     have px:xs.Perm (arrOf st):=by rw [← hxs]; exact mirror_perm _ _ _ _
     have hB2:=hB.set px
     have mir:∀ t,t < n→K xs (lo + t) = K (arrOf st) (lo + (n - 1 - t)):=fun t ht=>by
      rw [hm,if_pos ⟨Nat.le_add_right _ _,Nat.add_lt_add_left ht _⟩,mir_at ht]
     have sg2:Seg xs lo (lo + n):=fun i j a b c=>by
      obtain ⟨t,rfl⟩:=Nat.exists_eq_add_of_le a
      obtain ⟨u,rfl⟩:=Nat.exists_eq_add_of_le (Nat.le_trans a b)
      have hu:=Nat.lt_of_add_lt_add_left c
      have htu:=Nat.le_of_add_le_add_left b
      rw [mir t (Nat.lt_of_le_of_lt htu hu),mir u hu]
      rcases Nat.lt_or_ge t u with q | q
      ·exact Int.le_of_lt (dec _ _ (Nat.sub_lt_sub_left (Nat.lt_of_lt_of_le q (Nat.le_sub_one_of_lt hu)) q) (Nat.lt_of_le_of_lt (Nat.sub_le _ _) (Nat.sub_lt (Nat.lt_of_le_of_lt (Nat.zero_le _) hu) Nat.one_pos)))
      ·obtain rfl:t = u:=Nat.le_antisymm htu q
       exact Int.le_refl _
     refine wpS_bind (wpS_mono (wpS_forRange (I:=fun x c st2=>st2 = setArr st xs∧c = (none,x)∧Seg xs lo (lo + x)) (Q:=fun c st2=>st2 = setArr st xs∧∃ m,c = (none,m)∧1≤m∧m≤nrem∧Seg xs lo (lo + m)) ?step3 ?fin3 ⟨rfl,rfl,sg2⟩) ?post3)
     case fin3 =>
      rintro c st2 ⟨e1,e2,e3⟩
      rw [Nat.max_eq_right n4] at e2 e3
      exact ⟨e1,nrem,e2,h1,Nat.le_refl _,e3⟩
     case step3 =>
      rintro x c st2 hx1 hx2 ⟨e1,e2,e3⟩
      subst e1 e2
      dsimp only
      refine wpS_bind (lt_at hB2 h0 (by dict_keeps) (by dict_keeps) ?_)
      by_cases hl:K xs (lo + x) < K xs (lo + x - 1)
      ·have hl':K (arrOf (setArr st xs)) (lo + x) < K (arrOf (setArr st xs)) (lo + x - 1):=hl
       refine wps_pos (decide_eq_true hl') ?_
       exact wpS_pure ⟨rfl,x,rfl,by dict_keeps,by dict_keeps,e3⟩
      ·have hl':¬ K (arrOf (setArr st xs)) (lo + x) < K (arrOf (setArr st xs)) (lo + x - 1):=hl
       refine wps_neg (fun z=>hl' (of_decide_eq_true z)) ?_
       refine wpS_pure ⟨rfl,rfl,fun i j a b c=>?_⟩
       by_cases q:j < lo + x
       ·exact e3 i j a b q
       ·have ej:j = lo + x:=by dict_keeps
        subst ej
        by_cases qi:i = lo + x
        ·rw [qi]; exact Int.le_refl _
        ·have:=e3 i (lo + x - 1) a (by dict_keeps) (by dict_keeps)
         dict_keeps
     case post3 =>
      rintro c st2 ⟨e1,m,e2,m1,m2,sg3⟩
      subst e1 e2
      dsimp only
      exact wpS_pure (h m xs px m1 m2 (fun k hk=>by rw [hm,if_neg (by dict_keeps)]) sg3)
end
noncomputable def gallop':Bool→Keyed→Array Keyed→Nat→Nat→Nat→StateT SortSt Sem (Option Nat):=sortPriv% PySem.Builtin.gallop
noncomputable def beyond' (left:Bool) (key:Keyed) (arr:Array Keyed) (base i:Nat):StateT SortSt Sem (Option Bool):=do
 let x ← elem' arr (base + i)
 if left then lt' x key else return (← lt' key x).map (!·)
theorem gallop'_eq (left:Bool) (key:Keyed) (arr:Array Keyed) (base n hint:Nat):gallop' left key arr base n hint = (do
 let mut lastofs:=0
 let mut ofs:=1
 let mut lo:=0
 let mut hi:=0
 let some right ← beyond' left key arr base hint | return none
 if right then
  let maxofs:=n - hint
  for _ in [0:n] do
   if ofs ≥ maxofs then break
   let some more ← beyond' left key arr base (hint + ofs) | return none
   if !more then break
   lastofs:=ofs
   ofs:=2 * ofs + 1
  lo:=hint + lastofs + 1
  hi:=hint + min ofs maxofs
 else
  let maxofs:=hint + 1
  for _ in [0:n] do
   if ofs ≥ maxofs then break
   let some found ← beyond' left key arr base (hint - ofs) | return none
   if found then break
   lastofs:=ofs
   ofs:=2 * ofs + 1
  lo:=hint + 1 - min ofs maxofs
  hi:=hint - lastofs
 for _ in [0:n] do
  if lo ≥ hi then break
  let m:=lo + (hi - lo) / 2
  let some more ← beyond' left key arr base m | return none
  if more then lo:=m + 1 else hi:=m
 return some hi):=rfl
noncomputable def IntKey (p:Keyed):Prop:=∃ n t,p.1 = .int n t
noncomputable def Bf (left:Bool) (k x:Int):Bool:=if left then decide (x < k) else !decide (k < x)
theorem Bf_down {left:Bool} {k x y:Int} (h:x≤y) (hy:Bf left k y = true):Bf left k x = true:=by
 unfold Bf at hy ⊢
 cases left with
 | true =>
  simp only [if_true,decide_eq_true_eq] at hy ⊢; dict_keeps
 | false =>
  simp only [Bool.false_eq_true,if_false,Bool.not_eq_true',decide_eq_false_iff_not] at hy ⊢; dict_keeps
section
variable {prog:Program} {w:World} {A:Around} {E:Value→Shared→Prop} {s:Shared} {a₀:Array Keyed}
theorem lt_keys {st:SortSt} {x y:Keyed} {Q:Option Bool→SortSt→Prop} (hk:kindOf st = oneType') (hx:IntKey x) (hy:IntKey y) (h:Q (some (decide (numOf x.1 < numOf y.1))) st):wpS (model prog w) A E s (lt' x y) Q st:=by
 obtain ⟨x1,x2⟩:=x
 obtain ⟨y1,y2⟩:=y
 obtain ⟨n,t,e⟩:=hx
 obtain ⟨m,u,e'⟩:=hy
 cases e; cases e'
 rw [lt'_eq]
 refine wpS_bind (wpS_get ?_)
 rw [hk,keyLt'_oneType]
 exact wpS_bind (wpS_lift (wpAny_attempt (oneLt_int ⟨rfl,wpS_pure h⟩)))
theorem elem_at {st:SortSt} {arr:Array Keyed} {i:Nat} {Q:Keyed→SortSt→Prop} (hi:i < arr.size) (h:Q arr[i] st):wpS (model prog w) A E s (elem' arr i) Q st:=by
 rw [elem'_eq,Array.getElem?_eq_getElem hi]; exact wpS_pure h
theorem beyond_at {st:SortSt} {left:Bool} {key:Keyed} {arr:Array Keyed} {base i:Nat} {Q:Option Bool→SortSt→Prop} (hk:kindOf st = oneType') (hkey:IntKey key) (hi:base + i < arr.size) (ha:IntKeys arr) (h:Q (some (Bf left (numOf key.1) (K arr (base + i)))) st):wpS (model prog w) A E s (beyond' left key arr base i) Q st:=by
 unfold beyond'
 have hx:IntKey arr[base + i]:=ha _ (by simp)
 refine wpS_bind (elem_at hi ?_)
 rw [K_get hi] at h
 cases left with
 | true=>exact lt_keys hk hx hkey h
 | false=>exact wpS_bind (lt_keys hk hkey hx (wpS_pure h))
theorem half_to {l r:Nat} (h:l < r):l≤l + (r - l) / 2∧l + (r - l) / 2 < r:=⟨Nat.le_add_right _ _,Nat.add_lt_of_lt_sub' (Nat.div_lt_self (Nat.sub_pos_of_lt h) (by decide))⟩
theorem bin_search {st:SortSt} {B:Nat→Bool} {n lo hi:Nat} {f:Nat→Option (Option Nat)×Nat×Nat→StateT SortSt Sem (ForInStep (Option (Option Nat)×Nat×Nat))} {Q:Option (Option Nat)×Nat×Nat→SortSt→Prop}
  (up:∀ i j,i≤j→j < n→B j = true→B i = true) (hlh:lo≤hi) (hhn:hi≤n) (hlo:∀ i,i < lo→B i = true) (hhi:∀ i,hi≤i→i < n→B i = false)
  (f1:∀ x lo hi Q,lo ≥ hi→Q (.done (none,lo,hi)) st→wpS (model prog w) A E s (f x (none,lo,hi)) Q st)
  (f2:∀ x lo hi Q,lo < hi→hi≤n→Q (if B (lo + (hi - lo) / 2) = true then .yield (none,lo + (hi - lo) / 2 + 1,hi) else .yield (none,lo,lo + (hi - lo) / 2)) st→wpS (model prog w) A E s (f x (none,lo,hi)) Q st)
  (h:∀ k,k≤n→(∀ i,i < k→B i = true)→(∀ i,k≤i→i < n→B i = false)→Q (none,k,k) st):wpS (model prog w) A E s (forIn [:n] (none,lo,hi) f) Q st:=by
 refine wpS_mono (wpS_forRange (I:=fun x c st'=>st' = st∧∃ lo hi,c = (none,lo,hi)∧lo≤hi∧hi≤n∧hi + x≤lo + n∧(∀ i,i < lo→B i = true)∧(∀ i,hi≤i→i < n→B i = false)) (Q:=fun c st'=>st' = st∧∃ k,c = (none,k,k)∧k≤n∧(∀ i,i < k→B i = true)∧(∀ i,k≤i→i < n→B i = false)) ?step ?fin ⟨rfl,lo,hi,rfl,hlh,hhn,Nat.le_trans hhn (Nat.le_add_left _ _),hlo,hhi⟩) ?post
 case fin =>
  rintro c st' ⟨e1,lo,hi,e2,h1,h2,h3,h4,h5⟩
  have:lo = hi:=by dict_keeps
  subst this
  exact ⟨e1,lo,e2,h2,h4,h5⟩
 case step =>
  rintro x c st' o9 hx ⟨e1,lo,hi,e2,h1,h2,h3,h4,h5⟩
  subst e1 e2
  by_cases q:lo ≥ hi
  ·have:lo = hi:=Nat.le_antisymm h1 q
   subst this
   exact f1 x lo lo _ (Nat.le_refl _) ⟨rfl,lo,rfl,h2,h4,h5⟩
  ·have lt:=Nat.not_le.mp q
   obtain ⟨m1,m2⟩:=half_to lt
   refine f2 x lo hi _ lt h2 ?_
   generalize lo + (hi - lo) / 2 = mid at m1 m2 ⊢
   by_cases hb:B mid = true
   ·rw [if_pos hb]
    exact ⟨rfl,mid + 1,hi,rfl,m2,h2,by rw [← Nat.add_assoc,Nat.add_right_comm mid 1 n]; exact Nat.succ_le_succ (Nat.le_trans h3 (Nat.add_le_add_right m1 n)),fun i hi'=>up i mid (Nat.le_of_lt_succ hi') (Nat.lt_of_lt_of_le m2 h2) hb,h5⟩
   ·rw [if_neg hb]
    refine ⟨rfl,lo,mid,rfl,m1,Nat.le_trans (Nat.le_of_lt m2) h2,Nat.le_trans (by rw [Nat.add_comm x,← Nat.add_assoc]; exact Nat.add_le_add_right m2 x) h3,h4,fun i h6 h7=>?_⟩
    cases e:B i with
    | false=>rfl
    | true=>exact absurd (up mid i h6 h7 e) hb
 case post =>
  rintro c st' ⟨e1,k,e2,h1,h2,h3⟩
  subst e1 e2
  exact h k h1 h2 h3
theorem dbl (o:Nat):o≤2 * o:=by rw [Nat.two_mul]; exact Nat.le_add_left _ _
theorem gallop_at {st:SortSt} {left:Bool} {key:Keyed} {arr:Array Keyed} {base n hint:Nat} {Q:Option Nat→SortSt→Prop} (hk:kindOf st = oneType') (hkey:IntKey key) (ha:IntKeys arr) (hn:base + n≤arr.size) (hh:hint < n) (sg:Seg arr base (base + n))
  (h:∀ k,k≤n→(∀ i,i < k→Bf left (numOf key.1) (K arr (base + i)) = true)→(∀ i,k≤i→i < n→Bf left (numOf key.1) (K arr (base + i)) = false)→Q (some k) st):wpS (model prog w) A E s (gallop' left key arr base n hint) Q st:=by
 rw [gallop'_eq]
 have up:∀ i j,i≤j→j < n→Bf left (numOf key.1) (K arr (base + j)) = true→Bf left (numOf key.1) (K arr (base + i)) = true:=fun i j hij hj hb=>Bf_down (sg _ _ (by dict_keeps) (by dict_keeps) (by dict_keeps)) hb
 have dn:∀ i j,i≤j→j < n→Bf left (numOf key.1) (K arr (base + i)) = false→Bf left (numOf key.1) (K arr (base + j)) = false:=fun i j hij hj hb=>by
  cases e:Bf left (numOf key.1) (K arr (base + j)) with
  | false=>rfl
  | true=>rw [up i j hij hj e] at hb; cases hb
 refine wpS_bind (beyond_at hk hkey (by dict_keeps) ha ?_)
 dsimp only
 by_cases hr:Bf left (numOf key.1) (K arr (base + hint)) = true
 ·refine wps_pos hr ?_
  refine wpS_bind (wpS_mono (wpS_forRange (I:=fun x c st'=>st' = st∧∃ l o,c = (none,l,o)∧x + 1≤o∧l < o∧l < n - hint∧Bf left (numOf key.1) (K arr (base + (hint + l))) = true) (Q:=fun c st'=>st' = st∧∃ l o,c = (none,l,o)∧l < o∧l < n - hint∧Bf left (numOf key.1) (K arr (base + (hint + l))) = true∧(o < n - hint→Bf left (numOf key.1) (K arr (base + (hint + o))) = false)) ?step ?fin ⟨rfl,0,1,rfl,Nat.le_refl _,by dict_keeps,by dict_keeps,hr⟩) ?post)
  case fin =>
   rintro c st' ⟨e1,l,o,e2,h1,h2,h3,h4⟩
   exact ⟨e1,l,o,e2,h2,h3,h4,fun z=>by dict_keeps⟩
  case step =>
   rintro x c st' o9 hx ⟨e1,l,o,e2,h1,h2,h3,h4⟩
   subst e1 e2
   dsimp only
   by_cases q:o ≥ n - hint
   ·rw [if_pos q]; exact wpS_pure ⟨rfl,l,o,rfl,h2,h3,h4,fun z=>by dict_keeps⟩
   ·refine wps_neg q ?_
    have qo:=Nat.not_le.mp q
    refine wpS_bind (beyond_at hk hkey (Nat.lt_of_lt_of_le (Nat.add_lt_add_left (Nat.add_lt_of_lt_sub' qo) _) hn) ha ?_)
    dsimp only
    cases hb:Bf left (numOf key.1) (K arr (base + (hint + o))) with
    | false=>exact wpS_pure ⟨rfl,l,o,rfl,h2,h3,h4,fun o9=>hb⟩
    | true=>exact wpS_pure ⟨rfl,o,2 * o + 1,rfl,Nat.succ_le_succ (Nat.le_trans h1 (dbl o)),Nat.lt_succ_of_le (dbl o),qo,hb⟩
  case post =>
   rintro c st' ⟨e1,l,o,e2,h2,h3,h4,h5⟩
   subst e1 e2
   dsimp only
   refine wpS_bind (bin_search (st:=st') (B:=fun i=>Bf left (numOf key.1) (K arr (base + i))) (lo:=hint + l + 1) (hi:=hint + min o (n - hint)) up (Nat.add_le_add_left (Nat.le_min.mpr ⟨h2,h3⟩) hint) (Nat.le_trans (Nat.add_le_add_left (Nat.min_le_right _ _) _) (Nat.le_of_eq (Nat.add_sub_of_le (Nat.le_of_lt hh)))) (fun i hi=>up i (hint + l) (Nat.le_of_lt_succ hi) (Nat.add_lt_of_lt_sub' h3) h4) (fun i h6 h7=>?_) (fun x lo hi Q q hQ=>by dsimp only; rw [if_pos q]; exact wpS_pure hQ) (fun x lo hi Q q q2 hQ=>by
    dsimp only
    refine wps_neg (Nat.not_le.mpr q) ?_
    refine wpS_bind (beyond_at hk hkey (Nat.lt_of_lt_of_le (Nat.add_lt_add_left (Nat.lt_of_lt_of_le (half_to q).2 q2) _) hn) ha ?_)
    dsimp only
    cases hb:Bf left (numOf key.1) (K arr (base + (lo + (hi - lo) / 2))) with
    | true =>
     simp only [hb,if_true] at hQ
     exact wpS_pure hQ
    | false =>
     simp only [hb,Bool.false_eq_true,if_false] at hQ
     exact wpS_pure hQ) fun k k1 k2 k3=>wpS_pure (h k k1 k2 k3))
   by_cases q:o < n - hint
   ·rw [Nat.min_eq_left (Nat.le_of_lt q)] at h6
    exact dn (hint + o) i h6 h7 (h5 q)
   ·rw [Nat.min_eq_right (Nat.not_lt.mp q),Nat.add_sub_of_le (Nat.le_of_lt hh)] at h6
    exact absurd h7 (Nat.not_lt.mpr h6)
 ·refine wps_neg hr ?_
  have hr:Bf left (numOf key.1) (K arr (base + hint)) = false:=by simpa using hr
  refine wpS_bind (wpS_mono (wpS_forRange (I:=fun x c st'=>st' = st∧∃ l o,c = (none,l,o)∧x + 1≤o∧l < o∧l≤hint∧Bf left (numOf key.1) (K arr (base + (hint - l))) = false) (Q:=fun c st'=>st' = st∧∃ l o,c = (none,l,o)∧l < o∧l≤hint∧Bf left (numOf key.1) (K arr (base + (hint - l))) = false∧(o≤hint→Bf left (numOf key.1) (K arr (base + (hint - o))) = true)) ?step ?fin ⟨rfl,0,1,rfl,Nat.le_refl _,by dict_keeps,by dict_keeps,hr⟩) ?post)
  case fin =>
   rintro c st' ⟨e1,l,o,e2,h1,h2,h3,h4⟩
   exact ⟨e1,l,o,e2,h2,h3,h4,fun z=>by dict_keeps⟩
  case step =>
   rintro x c st' o9 hx ⟨e1,l,o,e2,h1,h2,h3,h4⟩
   subst e1 e2
   dsimp only
   by_cases q:o ≥ hint + 1
   ·rw [if_pos q]; exact wpS_pure ⟨rfl,l,o,rfl,h2,h3,h4,fun z=>by dict_keeps⟩
   ·refine wps_neg q ?_
    have qo:=Nat.not_le.mp q
    refine wpS_bind (beyond_at hk hkey (Nat.lt_of_lt_of_le (Nat.add_lt_add_left (Nat.lt_of_le_of_lt (Nat.sub_le _ _) hh) _) hn) ha ?_)
    dsimp only
    cases hb:Bf left (numOf key.1) (K arr (base + (hint - o))) with
    | true=>exact wpS_pure ⟨rfl,l,o,rfl,h2,h3,h4,fun o9=>hb⟩
    | false=>exact wpS_pure ⟨rfl,o,2 * o + 1,rfl,Nat.succ_le_succ (Nat.le_trans h1 (dbl o)),Nat.lt_succ_of_le (dbl o),Nat.le_of_lt_succ qo,hb⟩
  case post =>
   rintro c st' ⟨e1,l,o,e2,h2,h3,h4,h5⟩
   subst e1 e2
   dsimp only
   refine wpS_bind (bin_search (st:=st') (B:=fun i=>Bf left (numOf key.1) (K arr (base + i))) (lo:=hint + 1 - min o (hint + 1)) (hi:=hint - l) up (by rw [← Nat.succ_sub_succ hint l]; exact Nat.sub_le_sub_left (Nat.le_min.mpr ⟨h2,Nat.succ_le_succ h3⟩) _) (Nat.le_trans (Nat.sub_le _ _) (Nat.le_of_lt hh)) (fun i hi=>?_) (fun i h6 h7=>dn (hint - l) i h6 h7 h4) (fun x lo hi Q q hQ=>by dsimp only; rw [if_pos q]; exact wpS_pure hQ) (fun x lo hi Q q q2 hQ=>by
    dsimp only
    refine wps_neg (Nat.not_le.mpr q) ?_
    refine wpS_bind (beyond_at hk hkey (Nat.lt_of_lt_of_le (Nat.add_lt_add_left (Nat.lt_of_lt_of_le (half_to q).2 q2) _) hn) ha ?_)
    dsimp only
    cases hb:Bf left (numOf key.1) (K arr (base + (lo + (hi - lo) / 2))) with
    | true =>
     simp only [hb,if_true] at hQ
     exact wpS_pure hQ
    | false =>
     simp only [hb,Bool.false_eq_true,if_false] at hQ
     exact wpS_pure hQ) fun k k1 k2 k3=>wpS_pure (h k k1 k2 k3))
   by_cases q:o≤hint
   ·rw [Nat.min_eq_left (Nat.le_succ_of_le q),Nat.succ_sub q] at hi
    exact up i (hint - o) (Nat.le_of_lt_succ hi) (Nat.lt_of_le_of_lt (Nat.sub_le _ _) hh) (h5 q)
   ·rw [Nat.min_eq_right (Nat.not_le.mp q),Nat.sub_self] at hi
    exact absurd hi (Nat.not_lt_zero _)
theorem gallop_ab {st:SortSt} {left:Bool} {key:Keyed} {arr:Array Keyed} {base n hint m:Nat} {Q:Option Nat→SortSt→Prop} (hk:kindOf st = oneType') (hkey:IntKey key) (ha:IntKeys arr) (hm:base + n = m) (hn:m≤arr.size) (hh:hint < n) (sg:Seg arr base m)
  (h:∀ k,base + k≤m→(∀ x,base≤x→x < base + k→Bf left (numOf key.1) (K arr x) = true)→(∀ x,base + k≤x→x < m→Bf left (numOf key.1) (K arr x) = false)→Q (some k) st):wpS (model prog w) A E s (gallop' left key arr base n hint) Q st:=by
 subst hm
 refine gallop_at hk hkey ha hn hh sg fun k k1 k2 k3=>h k (Nat.add_le_add_left k1 _) (fun x p q=>?_) (fun x p q=>?_)
 ·obtain ⟨t,rfl⟩:=Nat.exists_eq_add_of_le p
  exact k2 t (Nat.lt_of_add_lt_add_left q)
 ·obtain ⟨t,rfl⟩:=Nat.exists_eq_add_of_le (Nat.le_trans (Nat.le_add_right _ _) p)
  exact k3 t (Nat.le_of_add_le_add_left p) (Nat.lt_of_add_lt_add_left q)
end
abbrev kyp (p:Keyed):Int:=numOf p.1
noncomputable def Srt (l:List Keyed):Prop:=l.Pairwise fun p q=>kyp p≤kyp q
structure MG (A B o:List Keyed):Prop where
 perm:o.Perm (A ++ B)
 srt:Srt o
structure MI (A₀ B₀ o A B:List Keyed):Prop where
 perm:(o ++ (A ++ B)).Perm (A₀ ++ B₀)
 srt:Srt o
 sa:Srt A
 sb:Srt B
 lo:∀ x∈o,∀ y∈A ++ B,kyp x≤kyp y
section
variable {A₀ B₀ o A B X:List Keyed}
theorem no_more {p A B x y:Nat} {P:Prop} (h0:0 < p) (hx:p + (A + B)≤x + y) (ha:x≤A) (hb:y≤B):P :=
 (Nat.lt_irrefl _ (Nat.lt_of_lt_of_le (Nat.lt_add_of_pos_left h0) (Nat.le_trans hx (Nat.add_le_add ha hb)))).elim
theorem no_less {p A B x y:Nat} {P:Prop} (ha:x + 1 < A) (hb:y < B) (hx:p + (A + B)≤x + y):P :=
 (Nat.lt_irrefl _ (Nat.lt_of_lt_of_le (Nat.add_lt_add (Nat.lt_of_succ_lt ha) hb) (Nat.le_trans (Nat.le_add_left _ _) hx))).elim
theorem MI.takeA (h:MI A₀ B₀ o (X ++ A) B) (hX:∀ x∈X,∀ y∈B,kyp x≤kyp y):MI A₀ B₀ (o ++ X) A B:=by
 obtain ⟨s1,s2,s3⟩:=List.pairwise_append.mp h.sa
 refine ⟨by have:=h.perm; rw [List.append_assoc] at this ⊢; exact this,List.pairwise_append.mpr ⟨h.srt,s1,fun x hx y hy=>h.lo x hx y (by simp [hy])⟩,s2,h.sb,fun x hx y hy=>?_⟩
 rcases List.mem_append.mp hx with q | q
 ·refine h.lo x q y ?_
  rcases List.mem_append.mp hy with z | z <;> simp [z]
 ·rcases List.mem_append.mp hy with z | z
  ·exact s3 x q y z
  ·exact hX x q y z
theorem MI.swap (h:MI A₀ B₀ o A B):MI B₀ A₀ o B A:=⟨(List.Perm.append_left _ List.perm_append_comm).trans (h.perm.trans List.perm_append_comm),h.srt,h.sb,h.sa,fun x hx y hy=>h.lo x hx y (by rcases List.mem_append.mp hy with z | z <;> simp [z])⟩
theorem MI.takeB (h:MI A₀ B₀ o A (X ++ B)) (hX:∀ x∈X,∀ y∈A,kyp x≤kyp y):MI A₀ B₀ (o ++ X) A B:=(h.swap.takeA hX).swap
theorem MI.done (h:MI A₀ B₀ o A B) (hAB:∀ x∈A,∀ y∈B,kyp x≤kyp y):MG A₀ B₀ (o ++ A ++ B) :=
 ⟨by rw [List.append_assoc]; exact h.perm,by
  rw [List.append_assoc]
  exact List.pairwise_append.mpr ⟨h.srt,List.pairwise_append.mpr ⟨h.sa,h.sb,hAB⟩,h.lo⟩⟩
theorem MI.last (h:MI A₀ B₀ o A B) (hBA:∀ x∈A,∀ y∈B,kyp y≤kyp x):MG A₀ B₀ (o ++ B ++ A):=by
 have:=h.swap.done fun x hx y hy=>hBA y hy x hx
 exact ⟨this.perm.trans List.perm_append_comm,this.srt⟩
end
structure SG (st st':SortSt):Prop where
 k:kindOf st' = kindOf st
 a:arrOf st' = arrOf st
 p:pendingOf st' = pendingOf st
 f:failedOf st' = failedOf st
theorem SG.refl (st:SortSt):SG st st:=⟨rfl,rfl,rfl,rfl⟩
theorem SG.trans {a b c:SortSt} (h:SG a b) (h':SG b c):SG a c:=⟨h'.k.trans h.k,h'.a.trans h.a,h'.p.trans h.p,h'.f.trans h.f⟩
noncomputable def setMinGallop':Nat→StateT SortSt Sem Unit:=sortPriv% PySem.Builtin.setMinGallop
noncomputable def mergeLo':Array Keyed→Array Keyed→StateT SortSt Sem (Array Keyed):=sortPriv% PySem.Builtin.mergeLo
abbrev MO:=Option (Array Keyed)
noncomputable def loOne (a b:Array Keyed) (mg:Nat):Unit→MO×Array Keyed×Nat×Nat×Nat×Nat→StateT SortSt Sem (ForInStep (MO×Array Keyed×Nat×Nat×Nat×Nat)):=fun o9 ⟨_,out,ia,ib,ac,bc⟩=>do
 let y ← elem' b ib
 let x ← elem' a ia
 match ← lt' y x with
 | some bWins =>
  if bWins then do
   let y ← elem' b ib
   if ib + 1 == b.size then pure (.done (some (out.push y ++ a.extract ia a.size ++ b.extract (ib + 1) b.size),out.push y,ia,ib + 1,0,bc + 1))
   else if bc + 1 ≥ mg then pure (.done (none,out.push y,ia,ib + 1,0,bc + 1))
   else pure (.yield (none,out.push y,ia,ib + 1,0,bc + 1))
  else do
   let x ← elem' a ia
   if ia + 1 + 1 == a.size then pure (.done (some (out.push x ++ b.extract ib b.size ++ a.extract (ia + 1) a.size),out.push x,ia + 1,ib,ac + 1,0))
   else if ac + 1 ≥ mg then pure (.done (none,out.push x,ia + 1,ib,ac + 1,0))
   else pure (.yield (none,out.push x,ia + 1,ib,ac + 1,0))
 | _=>pure (.done (some (out ++ a.extract ia a.size ++ b.extract ib b.size),out,ia,ib,ac,bc))
noncomputable def loEnd (a b out:Array Keyed) (ia ib mg ac bc:Nat):StateT SortSt Sem (ForInStep (MO×Array Keyed×Nat×Nat×Nat×Nat×Nat)):=do
 let x ← elem' a ia
 if ia + 1 + 1 == a.size then pure (.done (some (out.push x ++ b.extract ib b.size ++ a.extract (ia + 1) a.size),out.push x,ia + 1,ib,mg,ac,bc))
 else if ac < 7 && bc < 7 then pure (.done (none,out.push x,ia + 1,ib,mg,ac,bc))
 else pure (.yield (none,out.push x,ia + 1,ib,mg,ac,bc))
noncomputable def loMid (a b out:Array Keyed) (ia ib mg ac bc:Nat):StateT SortSt Sem (ForInStep (MO×Array Keyed×Nat×Nat×Nat×Nat×Nat)):=do
 let y ← elem' b ib
 if ib + 1 == b.size then pure (.done (some (out.push y ++ a.extract ia a.size ++ b.extract (ib + 1) b.size),out.push y,ia,ib + 1,mg,ac,bc))
 else
  let x ← elem' a ia
  match ← gallop' true x b (ib + 1) (b.size - (ib + 1)) 0 with
  | some k =>
   if k > 0 then
    if ib + 1 + k == b.size then pure (.done (some ((out.push y ++ b.extract (ib + 1) (ib + 1 + k)) ++ a.extract ia a.size ++ b.extract (ib + 1 + k) b.size),out.push y ++ b.extract (ib + 1) (ib + 1 + k),ia,ib + 1 + k,mg,ac,k))
    else loEnd a b (out.push y ++ b.extract (ib + 1) (ib + 1 + k)) ia (ib + 1 + k) mg ac k
   else loEnd a b (out.push y) ia (ib + 1) mg ac k
  | _=>pure (.done (some (out.push y ++ a.extract ia a.size ++ b.extract (ib + 1) b.size),out.push y,ia,ib + 1,mg,ac,bc))
noncomputable def loTop (a b out:Array Keyed) (ia ib mg ac bc:Nat):StateT SortSt Sem (ForInStep (MO×Array Keyed×Nat×Nat×Nat×Nat×Nat)):=do
 setMinGallop' mg
 let y ← elem' b ib
 match ← gallop' false y a ia (a.size - ia) 0 with
 | some k =>
  if k > 0 then
   if ia + k + 1 == a.size then pure (.done (some ((out ++ a.extract ia (ia + k)) ++ b.extract ib b.size ++ a.extract (ia + k) a.size),out ++ a.extract ia (ia + k),ia + k,ib,mg,k,bc))
   else if ia + k == a.size then pure (.done (some ((out ++ a.extract ia (ia + k)) ++ a.extract (ia + k) a.size ++ b.extract ib b.size),out ++ a.extract ia (ia + k),ia + k,ib,mg,k,bc))
   else loMid a b (out ++ a.extract ia (ia + k)) (ia + k) ib mg k bc
  else loMid a b out ia ib mg k bc
 | _=>pure (.done (some (out ++ a.extract ia a.size ++ b.extract ib b.size),out,ia,ib,mg,ac,bc))
noncomputable def loTurn (a b:Array Keyed):Unit→MO×Array Keyed×Nat×Nat×Nat×Nat×Nat→StateT SortSt Sem (ForInStep (MO×Array Keyed×Nat×Nat×Nat×Nat×Nat)):=fun o9 ⟨_,out,ia,ib,mg,ac,bc⟩ =>
 if mg > 1 then loTop a b out ia ib (mg - 1) ac bc else loTop a b out ia ib mg ac bc
noncomputable def loBoth (a b:Array Keyed):MO×Array Keyed×Nat×Nat×Nat→StateT SortSt Sem (ForInStep (MO×Array Keyed×Nat×Nat×Nat)):=fun ⟨_,out,ia,ib,mg⟩=>do
 let s1 ← forIn [0:a.size + b.size] ((none,out,ia,ib,0,0):MO×Array Keyed×Nat×Nat×Nat×Nat) (fun o9=>loOne a b mg ())
 match s1.1 with
 | some r=>pure (.done (some r,s1.2.1,s1.2.2.1,s1.2.2.2.1,mg))
 | none =>
  liftM (rule "list.sort.gallop")
  let s2 ← forIn [0:a.size + b.size] ((none,s1.2.1,s1.2.2.1,s1.2.2.2.1,mg + 1,s1.2.2.2.2.1,s1.2.2.2.2.2):MO×Array Keyed×Nat×Nat×Nat×Nat×Nat) (fun o9=>loTurn a b ())
  match s2.1 with
  | some r=>pure (.done (some r,s2.2.1,s2.2.2.1,s2.2.2.2.1,s2.2.2.2.2.1))
  | none =>
   setMinGallop' (s2.2.2.2.2.1 + 1)
   pure (.yield (none,s2.2.1,s2.2.2.1,s2.2.2.2.1,s2.2.2.2.2.1 + 1))
noncomputable def mergeLoN (a b:Array Keyed):StateT SortSt Sem (Array Keyed):=do
 liftM (rule "list.sort.merge-lo")
 let y ← elem' b 0
 if 1 == b.size then pure (#[y] ++ a.extract 0 a.size ++ b.extract 1 b.size)
 else if 0 + 1 == a.size then pure (#[y] ++ b.extract 1 b.size ++ a.extract 0 a.size)
 else
  let st ← get
  let s ← forIn [0:a.size + b.size] ((none,#[y],0,1,gallopOf st):MO×Array Keyed×Nat×Nat×Nat) (fun o9=>loBoth a b)
  match s.1 with
  | some r=>pure r
  | none=>liftM (unsupported "internal:list.sort.merge-bound":Sem (Array Keyed))
theorem mergeLo_eq (a b:Array Keyed):mergeLo' a b = mergeLoN a b:=by kernel_rfl
noncomputable def MA (a b out:Array Keyed) (ia ib:Nat):Prop:=MI a.toList b.toList out.toList (a.toList.drop ia) (b.toList.drop ib)
structure Two (a b:Array Keyed):Prop where
 ia:IntKeys a
 ib:IntKeys b
 sa:Srt a.toList
 sb:Srt b.toList
theorem drop_split (a:Array Keyed) {i k:Nat}:a.toList.drop i = (a.extract i (i + k)).toList ++ a.toList.drop (i + k):=by
 rw [Array.toList_extract,List.extract_eq_take_drop,Nat.add_sub_cancel_left,← List.drop_drop,List.take_append_drop]
theorem drop_cons (a:Array Keyed) {i:Nat} (h:i < a.size):a.toList.drop i = [a[i]] ++ a.toList.drop (i + 1):=by
 rw [List.drop_eq_getElem_cons (by simpa using h)]; simp
theorem rest_eq (a:Array Keyed) (i:Nat):(a.extract i a.size).toList = a.toList.drop i:=by
 rw [Array.toList_extract,List.extract_eq_take_drop,← Array.length_toList,← List.length_drop,List.take_length]
theorem K_drop {a:Array Keyed} {i:Nat} {y:Keyed} (hy:y∈a.toList.drop i):∃ j,i≤j∧j < a.size∧kyp y = K a j:=by
 obtain ⟨k,hk,e⟩:=List.mem_iff_getElem.mp hy
 rw [List.length_drop,Array.length_toList] at hk
 refine ⟨i + k,by dict_keeps,by dict_keeps,?_⟩
 rw [K_get (by dict_keeps),← e,List.getElem_drop]; simp
theorem K_ext {a:Array Keyed} {i k:Nat} (h:i + k≤a.size) {y:Keyed} (hy:y∈(a.extract i (i + k)).toList):∃ j,i≤j∧j < i + k∧kyp y = K a j:=by
 obtain ⟨m,hm,e⟩:=List.mem_iff_getElem.mp hy
 simp only [Array.length_toList,Array.size_extract] at hm
 have hm':=Nat.add_lt_of_lt_sub' hm
 refine ⟨i + m,Nat.le_add_right _ _,Nat.lt_of_lt_of_le hm' (Nat.min_le_left _ _),?_⟩
 rw [K_get (Nat.lt_of_lt_of_le hm' (Nat.min_le_right _ _)),← e]; simp
theorem Srt.K {a:Array Keyed} (h:Srt a.toList) {i j:Nat} (hij:i≤j) (hj:j < a.size):K a i≤K a j:=by
 rw [K_get (by dict_keeps),K_get hj]
 rcases Nat.lt_or_ge i j with q | q
 ·have:=List.pairwise_iff_getElem.mp h i j (by simpa using (by dict_keeps:i < a.size)) (by simpa using hj) q
  simpa using this
 ·have:i = j:=by dict_keeps
  subst this; exact Int.le_refl _
theorem Srt.seg {a:Array Keyed} (h:Srt a.toList) (i n:Nat) (hn:i + n≤a.size):Seg a i (i + n):=fun x y o9 hxy hy=>h.K hxy (by dict_keeps)
section
variable {a b out:Array Keyed} {i j:Nat}
theorem MA.pushB (T:Two a b) (h:MA a b out i j) (hj:j < b.size) (hle:∀ x,i≤x→x < a.size→K b j≤K a x):MA a b (out.push b[j]) i (j + 1):=by
 unfold MA at h ⊢
 rw [drop_cons b hj] at h
 rw [Array.toList_push]
 refine h.takeB fun x hx y hy=>?_
 obtain ⟨z,z1,z2,z3⟩:=K_drop hy
 rw [List.mem_singleton.mp hx,z3]
 have:=hle z z1 z2
 rw [K_get hj] at this; exact this
theorem MA.pushA (T:Two a b) (h:MA a b out i j) (hi:i < a.size) (hle:∀ x,j≤x→x < b.size→K a i≤K b x):MA a b (out.push a[i]) (i + 1) j:=by
 unfold MA at h ⊢
 rw [drop_cons a hi] at h
 rw [Array.toList_push]
 refine h.takeA fun x hx y hy=>?_
 obtain ⟨z,z1,z2,z3⟩:=K_drop hy
 rw [List.mem_singleton.mp hx,z3]
 have:=hle z z1 z2
 rw [K_get hi] at this; exact this
theorem MA.moreB {k:Nat} (h:MA a b out i j) (hk:j + k≤b.size) (hle:∀ x y,i≤x→x < a.size→j≤y→y < j + k→K b y≤K a x):MA a b (out ++ b.extract j (j + k)) i (j + k):=by
 unfold MA at h ⊢
 rw [drop_split b (k:=k)] at h
 rw [Array.toList_append]
 refine h.takeB fun x hx y hy=>?_
 obtain ⟨z,z1,z2,z3⟩:=K_drop hy
 obtain ⟨u,u1,u2,u3⟩:=K_ext hk hx
 rw [z3,u3]; exact hle z u z1 z2 u1 u2
theorem MA.moreA {k:Nat} (h:MA a b out i j) (hk:i + k≤a.size) (hle:∀ x y,i≤x→x < i + k→j≤y→y < b.size→K a x≤K b y):MA a b (out ++ a.extract i (i + k)) (i + k) j:=by
 unfold MA at h ⊢
 rw [drop_split a (k:=k)] at h
 rw [Array.toList_append]
 refine h.takeA fun x hx y hy=>?_
 obtain ⟨z,z1,z2,z3⟩:=K_drop hy
 obtain ⟨u,u1,u2,u3⟩:=K_ext hk hx
 rw [z3,u3]; exact hle u z u1 u2 z1 z2
theorem MA.endA (h:MA a b out a.size j):MG a.toList b.toList (out ++ a.extract a.size a.size ++ b.extract j b.size).toList:=by
 rw [Array.toList_append,Array.toList_append,rest_eq,rest_eq]
 refine h.done fun x hx=>?_
 rw [List.drop_of_length_le (by rw [Array.length_toList]; exact Nat.le_refl _)] at hx; cases hx
theorem MA.endB (h:MA a b out i b.size):MG a.toList b.toList (out ++ a.extract i a.size ++ b.extract b.size b.size).toList:=by
 rw [Array.toList_append,Array.toList_append,rest_eq,rest_eq]
 refine h.done fun x o9 y hy=>?_
 rw [List.drop_of_length_le (by rw [Array.length_toList]; exact Nat.le_refl _)] at hy; cases hy
theorem MA.lastA (h:MA a b out i j) (hi:i + 1 = a.size) (hle:∀ y,y < b.size→K b y≤K a (a.size - 1)):MG a.toList b.toList (out ++ b.extract j b.size ++ a.extract i a.size).toList:=by
 rw [Array.toList_append,Array.toList_append,rest_eq,rest_eq]
 refine h.last fun x hx y hy=>?_
 obtain ⟨z,z1,z2,z3⟩:=K_drop hx
 obtain ⟨u,u1,u2,u3⟩:=K_drop hy
 rw [z3,u3]
 have e:z = a.size - 1:=by rw [← hi]; show z = i; exact Nat.le_antisymm (Nat.le_of_lt_succ (Nat.lt_of_lt_of_eq z2 hi.symm)) z1
 rw [e]; exact hle u u2
end
structure LoJ (a b out:Array Keyed) (ia ib:Nat):Prop where
 h:MA a b out ia ib
 ha:ia + 1 < a.size
 hb:ib < b.size
section
variable {prog:Program} {w:World} {A:Around} {E:Value→Shared→Prop} {s:Shared}
variable {a b:Array Keyed} (T:Two a b) (hlast:∀ y,y < b.size→K b y≤K a (a.size - 1))
include T hlast
theorem lo_one {st:SortSt} {mg ia ib ac bc:Nat} {r:MO} {out:Array Keyed} {u:Unit} {Q:ForInStep (MO×Array Keyed×Nat×Nat×Nat×Nat)→SortSt→Prop} (hk:kindOf st = oneType') (J:LoJ a b out ia ib)
  (q1:∀ res out ia ib ac bc,MG a.toList b.toList res.toList→Q (.done (some res,out,ia,ib,ac,bc)) st)
  (q2:∀ out ia' ib' ac bc,LoJ a b out ia' ib'→ia' + ib' = ia + ib + 1→Q (.done (none,out,ia',ib',ac,bc)) st∧Q (.yield (none,out,ia',ib',ac,bc)) st) :
  wpS (model prog w) A E s (loOne a b mg u (r,out,ia,ib,ac,bc)) Q st:=by
 obtain ⟨h,ha,hb⟩:=J
 unfold loOne
 dsimp only
 refine wpS_bind (elem_at hb (wpS_bind (elem_at (by dict_keeps) (wpS_bind (lt_keys hk (T.ib _ (by simp)) (T.ia _ (by simp)) ?_)))))
 have e:decide (numOf b[ib].1 < numOf a[ia].1) = decide (K b ib < K a ia):=by rw [K_get hb,K_get (by dict_keeps)]
 rw [e]
 dsimp only
 by_cases hlt:K b ib < K a ia
 ·refine wps_pos (by simpa using hlt) ?_
  have h2:=h.pushB T hb fun x h1 h2=>Int.le_of_lt (Int.lt_of_lt_of_le hlt (T.sa.K h1 h2))
  refine wpS_bind (elem_at hb ?_)
  by_cases hend:ib + 1 = b.size
  ·refine wps_pos (by simpa using hend) ?_
   refine wpS_pure (q1 _ _ _ _ _ _ ?_)
   rw [hend] at h2 ⊢; exact h2.endB
  ·refine wps_neg (by simpa using hend) ?_
   have:=q2 (out.push b[ib]) ia (ib + 1) 0 (bc + 1) ⟨h2,ha,by dict_keeps⟩ (by dict_keeps)
   split
   ·exact wpS_pure this.1
   ·exact wpS_pure this.2
 ·refine wps_neg (by simpa using hlt) ?_
  have h2:=h.pushA T (by dict_keeps) fun x h1 h2=>Int.le_trans (Int.not_lt.mp hlt) (T.sb.K h1 h2)
  refine wpS_bind (elem_at (by dict_keeps) ?_)
  by_cases hend:ia + 1 + 1 = a.size
  ·refine wps_pos (by simpa using hend) ?_
   exact wpS_pure (q1 _ _ _ _ _ _ (h2.lastA hend hlast))
  ·refine wps_neg (by simpa using hend) ?_
   have:=q2 (out.push a[ia]) (ia + 1) ib (ac + 1) 0 ⟨h2,by dict_keeps,hb⟩ (by dict_keeps)
   split
   ·exact wpS_pure this.1
   ·exact wpS_pure this.2
end
theorem setMin_eq (g:Nat):setMinGallop' g = modify fun s=>SortSt.mk' (kindOf s) (arrOf s) (pendingOf s) g (failedOf s):=rfl
theorem Bf_true {k x:Int}:Bf true k x = true↔x < k:=by unfold Bf; simp
theorem Bf_true' {k x:Int}:Bf true k x = false↔k≤x:=by unfold Bf; simp
theorem Bf_false {k x:Int}:Bf false k x = true↔x≤k:=by unfold Bf; simp
theorem Bf_false' {k x:Int}:Bf false k x = false↔k < x:=by unfold Bf; simp
section
variable {prog:Program} {w:World} {A:Around} {E:Value→Shared→Prop} {s:Shared}
variable {a b:Array Keyed} (T:Two a b) (hlast:∀ y,y < b.size→K b y≤K a (a.size - 1))
structure LoQ (a b:Array Keyed) (n:Nat) (Q:ForInStep (MO×Array Keyed×Nat×Nat×Nat×Nat×Nat)→SortSt→Prop) (st:SortSt):Prop where
 one:∀ res out ia ib mg ac bc st',SG st st'→MG a.toList b.toList res.toList→Q (.done (some res,out,ia,ib,mg,ac,bc)) st'
 two:∀ out ia ib mg ac bc st',SG st st'→LoJ a b out ia ib→n < ia + ib→Q (.done (none,out,ia,ib,mg,ac,bc)) st'∧Q (.yield (none,out,ia,ib,mg,ac,bc)) st'
theorem LoQ.less {n m:Nat} {Q:ForInStep (MO×Array Keyed×Nat×Nat×Nat×Nat×Nat)→SortSt→Prop} {st st':SortSt} (q:LoQ a b n Q st) (h:n≤m) (hs:SG st st'):LoQ a b m Q st' :=
 ⟨fun res out ia ib mg ac bc st2 h1 h2=>q.one _ _ _ _ _ _ _ _ (hs.trans h1) h2,fun out ia ib mg ac bc st2 h1 h2 h3=>q.two _ _ _ _ _ _ _ (hs.trans h1) h2 (by dict_keeps)⟩
include T hlast
theorem lo_end {st:SortSt} {out:Array Keyed} {ia ib mg ac bc:Nat} {Q:ForInStep (MO×Array Keyed×Nat×Nat×Nat×Nat×Nat)→SortSt→Prop} (J:LoJ a b out ia ib) (hle:∀ x,ib≤x→x < b.size→K a ia≤K b x) (q:LoQ a b (ia + ib) Q st):wpS (model prog w) A E s (loEnd a b out ia ib mg ac bc) Q st:=by
 obtain ⟨h,ha,hb⟩:=J
 unfold loEnd
 refine wpS_bind (elem_at (by dict_keeps) ?_)
 have h2:=h.pushA T (by dict_keeps) hle
 by_cases hend:ia + 1 + 1 = a.size
 ·refine wps_pos (by simpa using hend) ?_
  exact wpS_pure (q.one _ _ _ _ _ _ _ _ (.refl _) (h2.lastA hend hlast))
 ·refine wps_neg (by simpa using hend) ?_
  have:=q.two (out.push a[ia]) (ia + 1) ib mg ac bc st (.refl _) ⟨h2,by dict_keeps,hb⟩ (by dict_keeps)
  split
  ·exact wpS_pure this.1
  ·exact wpS_pure this.2
theorem lo_mid {st:SortSt} {out:Array Keyed} {ia ib mg ac bc:Nat} {Q:ForInStep (MO×Array Keyed×Nat×Nat×Nat×Nat×Nat)→SortSt→Prop} (hk:kindOf st = oneType') (J:LoJ a b out ia ib) (hle:∀ x,ia≤x→x < a.size→K b ib≤K a x) (q:LoQ a b (ia + ib) Q st):wpS (model prog w) A E s (loMid a b out ia ib mg ac bc) Q st:=by
 obtain ⟨h,ha,hb⟩:=J
 unfold loMid
 refine wpS_bind (elem_at hb ?_)
 have h2:=h.pushB T hb hle
 by_cases hend:ib + 1 = b.size
 ·refine wps_pos (by simpa using hend) ?_
  refine wpS_pure (q.one _ _ _ _ _ _ _ _ (.refl _) ?_)
  rw [hend] at h2 ⊢; exact h2.endB
 ·refine wps_neg (by simpa using hend) ?_
  have hia:ia < a.size:=Nat.lt_of_succ_lt ha
  have hlt:ib + 1 < b.size:=Nat.lt_of_le_of_ne hb hend
  refine wpS_bind (elem_at hia (wpS_bind (gallop_ab hk (T.ia _ (by simp)) T.ib (Nat.add_sub_of_le hb) (Nat.le_refl _) (Nat.sub_pos_of_lt hlt) (fun o9 o9 o9 p q=>T.sb.K p q) fun k k1 k2 k3=>?_)))
  rw [← K_get hia] at k2 k3
  dsimp only
  by_cases hk0:k > 0
  ·refine wps_pos hk0 ?_
   have h3:=h2.moreB (k:=k) k1 fun x y h1 h2 h3 h4=>Int.le_trans (Int.le_of_lt (Bf_true.mp (k2 y h3 h4))) (T.sa.K h1 h2)
   by_cases hend2:ib + 1 + k = b.size
   ·refine wps_pos (by simpa using hend2) ?_
    refine wpS_pure (q.one _ _ _ _ _ _ _ _ (.refl _) ?_)
    rw [hend2] at h3 ⊢; exact h3.endB
   ·refine wps_neg (by simpa using hend2) ?_
    exact lo_end T hlast ⟨h3,ha,Nat.lt_of_le_of_ne k1 hend2⟩ (fun x h1 h2=>Bf_true'.mp (k3 x h1 h2)) (q.less (Nat.add_le_add_left (Nat.le_trans (Nat.le_succ _) (Nat.le_add_right _ _)) _) (.refl _))
  ·refine wps_neg hk0 ?_
   obtain rfl:k = 0:=Nat.eq_zero_of_not_pos hk0
   exact lo_end T hlast ⟨h2,ha,hlt⟩ (fun x h1 h2=>Bf_true'.mp (k3 x h1 h2)) (q.less (Nat.add_le_add_left (Nat.le_succ _) _) (.refl _))
theorem lo_top {st:SortSt} {out:Array Keyed} {ia ib mg ac bc:Nat} {Q:ForInStep (MO×Array Keyed×Nat×Nat×Nat×Nat×Nat)→SortSt→Prop} (hk:kindOf st = oneType') (J:LoJ a b out ia ib) (q:LoQ a b (ia + ib) Q st):wpS (model prog w) A E s (loTop a b out ia ib mg ac bc) Q st:=by
 obtain ⟨h,ha,hb⟩:=J
 unfold loTop
 rw [setMin_eq]
 have hia:ia < a.size:=Nat.lt_of_succ_lt ha
 refine wpS_bind (wpS_modify (wpS_bind (elem_at hb (wpS_bind (gallop_ab hk (T.ib _ (by simp)) T.ia (Nat.add_sub_of_le (Nat.le_of_lt hia)) (Nat.le_refl _) (Nat.sub_pos_of_lt hia) (fun o9 o9 o9 p q=>T.sa.K p q) fun k k1 k2 k3=>?_)))))
 have sg:SG st (SortSt.mk' (kindOf st) (arrOf st) (pendingOf st) mg (failedOf st)):=⟨rfl,rfl,rfl,rfl⟩
 rw [← K_get hb] at k2 k3
 dsimp only
 by_cases hk0:k > 0
 ·refine wps_pos hk0 ?_
  have h3:=h.moreA (k:=k) k1 fun x y h1 h2 h3 h4=>Int.le_trans (Bf_false.mp (k2 x h1 h2)) (T.sb.K h3 h4)
  by_cases e1:ia + k + 1 = a.size
  ·refine wps_pos (by simpa using e1) ?_
   exact wpS_pure (q.one _ _ _ _ _ _ _ _ sg (h3.lastA e1 hlast))
  ·refine wps_neg (by simpa using e1) ?_
   by_cases e2:ia + k = a.size
   ·refine wps_pos (by simpa using e2) ?_
    refine wpS_pure (q.one _ _ _ _ _ _ _ _ sg ?_)
    rw [e2] at h3 ⊢; exact h3.endA
   ·refine wps_neg (by simpa using e2) ?_
    exact lo_mid T hlast hk ⟨h3,Nat.lt_of_le_of_ne (Nat.lt_of_le_of_ne k1 e2) e1,hb⟩ (fun x h1 h2=>Int.le_of_lt (Bf_false'.mp (k3 x h1 h2))) (q.less (Nat.add_le_add_right (Nat.le_add_right _ _) _) sg)
 ·refine wps_neg hk0 ?_
  obtain rfl:k = 0:=Nat.eq_zero_of_not_pos hk0
  exact lo_mid T hlast hk ⟨h,ha,hb⟩ (fun x h1 h2=>Int.le_of_lt (Bf_false'.mp (k3 x h1 h2))) (q.less (Nat.le_refl _) sg)
theorem lo_both {st:SortSt} {out:Array Keyed} {ia ib mg:Nat} {r:MO} {Q:ForInStep (MO×Array Keyed×Nat×Nat×Nat)→SortSt→Prop} (hk:kindOf st = oneType') (J:LoJ a b out ia ib)
  (q1:∀ res out ia ib mg st',SG st st'→MG a.toList b.toList res.toList→Q (.done (some res,out,ia,ib,mg)) st')
  (q2:∀ out ia' ib' mg st',SG st st'→LoJ a b out ia' ib'→ia + ib < ia' + ib'→Q (.yield (none,out,ia',ib',mg)) st') :
  wpS (model prog w) A E s (loBoth a b (r,out,ia,ib,mg)) Q st:=by
 unfold loBoth
 dsimp only
 refine wpS_bind (wpS_mono (wpS_forRange (I:=fun x c st'=>st' = st∧∃ out ia' ib' ac bc,c = (none,out,ia',ib',ac,bc)∧LoJ a b out ia' ib'∧ia + ib + x≤ia' + ib') (Q:=fun c st'=>st' = st∧((∃ res,c.1 = some res∧MG a.toList b.toList res.toList)∨∃ out ia' ib' ac bc,c = (none,out,ia',ib',ac,bc)∧LoJ a b out ia' ib'∧ia + ib < ia' + ib')) ?step ?fin ⟨rfl,out,ia,ib,0,0,rfl,J,by dict_keeps⟩) ?post)
 case fin =>
  rintro c st' ⟨e1,out,ia',ib',ac,bc,e2,J',hx⟩
  rw [Nat.max_eq_right (Nat.zero_le _)] at hx
  exact no_less J'.ha J'.hb hx
 case step =>
  rintro x c st' o9 hx ⟨e1,out,ia',ib',ac,bc,e2,J',hx2⟩
  subst e1 e2
  exact lo_one T hlast hk J' (fun res o9 o9 o9 o9 o9 hm=>⟨rfl,.inl ⟨res,rfl,hm⟩⟩) fun out ia2 ib2 ac bc J2 h2=>⟨⟨rfl,.inr ⟨out,ia2,ib2,ac,bc,rfl,J2,by dict_keeps⟩⟩,rfl,out,ia2,ib2,ac,bc,rfl,J2,by dict_keeps⟩
 case post =>
  rintro c st' ⟨e1,hc⟩
  subst e1
  rcases hc with ⟨res,hr,hm⟩ | ⟨out,ia',ib',ac,bc,e2,J',hx⟩
  ·obtain ⟨r,out,ia',ib',ac,bc⟩:=c
   dsimp only at hr
   subst hr
   exact wpS_pure (q1 _ _ _ _ _ _ (.refl _) hm)
  ·subst e2
   dsimp only
   refine wpS_bind (wpS_lift (wpAny_rule ⟨rfl,?_⟩))
   refine wpS_bind (wpS_mono (wpS_forRange (I:=fun x c st2=>SG st' st2∧∃ out ia2 ib2 mg ac bc,c = (none,out,ia2,ib2,mg,ac,bc)∧LoJ a b out ia2 ib2∧ia' + ib' + x≤ia2 + ib2) (Q:=fun c st2=>SG st' st2∧((∃ res,c.1 = some res∧MG a.toList b.toList res.toList)∨∃ out ia2 ib2 mg ac bc,c = (none,out,ia2,ib2,mg,ac,bc)∧LoJ a b out ia2 ib2∧ia' + ib' < ia2 + ib2)) ?step2 ?fin2 ⟨.refl _,out,ia',ib',mg + 1,ac,bc,rfl,J',by dict_keeps⟩) ?post2)
   case fin2 =>
    rintro c st2 ⟨e1,out,ia2,ib2,mg,ac,bc,e2,J2,hx2⟩
    rw [Nat.max_eq_right (Nat.zero_le _)] at hx2
    exact no_less J2.ha J2.hb hx2
   case step2 =>
    rintro x c st2 o9 hx2 ⟨e1,out,ia2,ib2,mg,ac,bc,e2,J2,hx3⟩
    subst e2
    unfold loTurn
    dsimp only
    split
    all_goals exact lo_top T hlast (e1.k.trans hk) J2 ⟨fun res out i j mg ac bc st3 h1 h2=>⟨e1.trans h1,.inl ⟨res,rfl,h2⟩⟩,fun out i j mg ac bc st3 h1 h2 h3=>⟨⟨e1.trans h1,.inr ⟨out,i,j,mg,ac,bc,rfl,h2,by dict_keeps⟩⟩,e1.trans h1,out,i,j,mg,ac,bc,rfl,h2,by dict_keeps⟩⟩
   case post2 =>
    rintro c st2 ⟨e1,hc⟩
    rcases hc with ⟨res,hr,hm⟩ | ⟨out,ia2,ib2,mg2,ac,bc,e2,J2,hx2⟩
    ·obtain ⟨r,out,ia2,ib2,mg2,ac,bc⟩:=c
     dsimp only at hr
     subst hr
     exact wpS_pure (q1 _ _ _ _ _ _ e1 hm)
    ·subst e2
     dsimp only
     rw [setMin_eq]
     exact wpS_bind (wpS_modify (wpS_pure (q2 _ _ _ _ _ (e1.trans ⟨rfl,rfl,rfl,rfl⟩) J2 (by dict_keeps))))
theorem merge_lo {st:SortSt} {Q:Array Keyed→SortSt→Prop} (hk:kindOf st = oneType') (ha:0 < a.size) (hb:0 < b.size) (hle:∀ x,x < a.size→K b 0≤K a x)
  (q:∀ res st',SG st st'→MG a.toList b.toList res.toList→Q res st'):wpS (model prog w) A E s (mergeLo' a b) Q st:=by
 rw [mergeLo_eq]
 unfold mergeLoN
 refine wpS_bind (wpS_lift (wpAny_rule ⟨rfl,wpS_bind (elem_at hb ?_)⟩))
 have h0:MA a b #[] 0 0:=⟨by simp,.nil,by simpa using T.sa,by simpa using T.sb,fun x h=>by simp at h⟩
 have h1:MA a b #[b[0]] 0 1:=h0.pushB T hb fun x o9 h=>hle x h
 by_cases e1:1 = b.size
 ·refine wps_pos (by simpa using e1) ?_
  refine wpS_pure (q _ _ (.refl _) ?_)
  have e2:b.size = 1:=e1.symm
  have h2:=MA.endB (a:=a) (b:=b) (out:=#[b[0]]) (i:=0) (by rw [e2]; exact h1)
  simp only [e2] at h2 ⊢
  exact h2
 ·refine wps_neg (by simpa using e1) ?_
  by_cases e2:0 + 1 = a.size
  ·refine wps_pos (by simpa using e2) ?_
   exact wpS_pure (q _ _ (.refl _) (h1.lastA e2 hlast))
  ·refine wps_neg (by simpa using e2) ?_
   refine wpS_bind (wpS_get (wpS_bind (wpS_mono (wpS_forRange (I:=fun x c st'=>SG st st'∧∃ out ia ib mg,c = (none,out,ia,ib,mg)∧LoJ a b out ia ib∧x≤ia + ib) (Q:=fun c st'=>SG st st'∧∃ res,c.1 = some res∧MG a.toList b.toList res.toList) ?step ?fin ⟨.refl _,#[b[0]],0,1,_,rfl,⟨h1,by dict_keeps,by dict_keeps⟩,by dict_keeps⟩) ?post)))
   case fin =>
    rintro c st' ⟨_,out,ia,ib,mg,_,J,hx⟩
    have:=J.ha
    have:=J.hb
    rw [Nat.max_eq_right (Nat.zero_le _)] at hx
    dict_keeps
   case step =>
    rintro x c st' o9 hx ⟨sg,out,ia,ib,mg,e,J,hx2⟩
    subst e
    exact lo_both T hlast (sg.k.trans hk) J (fun res o9 o9 o9 o9 st2 h1 h2=>⟨sg.trans h1,res,rfl,h2⟩) fun out i j mg st2 h1 h2 h3=>⟨sg.trans h1,out,i,j,mg,rfl,h2,by dict_keeps⟩
   case post =>
    rintro ⟨r,out,ia,ib,mg⟩ st' ⟨sg,res,hr,hm⟩
    dsimp only at hr
    subst hr
    exact wpS_pure (q res st' sg hm)
end
noncomputable def mergeHi':Array Keyed→Array Keyed→StateT SortSt Sem (Array Keyed):=sortPriv% PySem.Builtin.mergeHi
noncomputable def hiOne (a b:Array Keyed) (mg:Nat):MO×Nat×Nat×Array Keyed×Nat×Nat→StateT SortSt Sem (ForInStep (MO×Nat×Nat×Array Keyed×Nat×Nat)):=fun ⟨_,na,nb,out,ac,bc⟩=>do
 let y ← elem' b (nb - 1)
 let x ← elem' a (na - 1)
 match ← lt' y x with
 | some aWins =>
  if aWins then do
   let x ← elem' a (na - 1)
   if na - 1 == 0 then pure (.done (some (a.extract 0 (na - 1) ++ b.extract 0 nb ++ (out.push x).reverse),na - 1,nb,out.push x,ac + 1,0))
   else if ac + 1 ≥ mg then pure (.done (none,na - 1,nb,out.push x,ac + 1,0))
   else pure (.yield (none,na - 1,nb,out.push x,ac + 1,0))
  else do
   let y ← elem' b (nb - 1)
   if nb - 1 == 1 then pure (.done (some (b.extract 0 (nb - 1) ++ a.extract 0 na ++ (out.push y).reverse),na,nb - 1,out.push y,0,bc + 1))
   else if bc + 1 ≥ mg then pure (.done (none,na,nb - 1,out.push y,0,bc + 1))
   else pure (.yield (none,na,nb - 1,out.push y,0,bc + 1))
 | _=>pure (.done (some (a.extract 0 na ++ b.extract 0 nb ++ out.reverse),na,nb,out,ac,bc))
noncomputable def hiEnd (a b out:Array Keyed) (na nb mg ac bc:Nat):StateT SortSt Sem (ForInStep (MO×Nat×Nat×Array Keyed×Nat×Nat×Nat)):=do
 let x ← elem' a (na - 1)
 if na - 1 == 0 then pure (.done (some (a.extract 0 (na - 1) ++ b.extract 0 nb ++ (out.push x).reverse),na - 1,nb,out.push x,mg,ac,bc))
 else if ac < 7 && bc < 7 then pure (.done (none,na - 1,nb,out.push x,mg,ac,bc))
 else pure (.yield (none,na - 1,nb,out.push x,mg,ac,bc))
noncomputable def hiMid (a b out:Array Keyed) (na nb mg ac bc:Nat):StateT SortSt Sem (ForInStep (MO×Nat×Nat×Array Keyed×Nat×Nat×Nat)):=do
 let y ← elem' b (nb - 1)
 if nb - 1 == 1 then pure (.done (some (b.extract 0 (nb - 1) ++ a.extract 0 na ++ (out.push y).reverse),na,nb - 1,out.push y,mg,ac,bc))
 else
  let x ← elem' a (na - 1)
  match ← gallop' true x b 0 (nb - 1) (nb - 1 - 1) with
  | some at_ =>
   if nb - 1 - at_ > 0 then
    if at_ == 1 then pure (.done (some (b.extract 0 at_ ++ a.extract 0 na ++ (out.push y ++ (b.extract at_ (nb - 1)).reverse).reverse),na,at_,out.push y ++ (b.extract at_ (nb - 1)).reverse,mg,ac,nb - 1 - at_))
    else if at_ == 0 then pure (.done (some (a.extract 0 na ++ b.extract 0 at_ ++ (out.push y ++ (b.extract at_ (nb - 1)).reverse).reverse),na,at_,out.push y ++ (b.extract at_ (nb - 1)).reverse,mg,ac,nb - 1 - at_))
    else hiEnd a b (out.push y ++ (b.extract at_ (nb - 1)).reverse) na at_ mg ac (nb - 1 - at_)
   else hiEnd a b (out.push y) na (nb - 1) mg ac (nb - 1 - at_)
  | _=>pure (.done (some (a.extract 0 na ++ b.extract 0 (nb - 1) ++ (out.push y).reverse),na,nb - 1,out.push y,mg,ac,bc))
noncomputable def hiTop (a b out:Array Keyed) (na nb mg ac bc:Nat):StateT SortSt Sem (ForInStep (MO×Nat×Nat×Array Keyed×Nat×Nat×Nat)):=do
 setMinGallop' mg
 let y ← elem' b (nb - 1)
 match ← gallop' false y a 0 na (na - 1) with
 | some at_ =>
  if na - at_ > 0 then
   if at_ == 0 then pure (.done (some (a.extract 0 at_ ++ b.extract 0 nb ++ (out ++ (a.extract at_ na).reverse).reverse),at_,nb,out ++ (a.extract at_ na).reverse,mg,na - at_,bc))
   else hiMid a b (out ++ (a.extract at_ na).reverse) at_ nb mg (na - at_) bc
  else hiMid a b out na nb mg (na - at_) bc
 | _=>pure (.done (some (a.extract 0 na ++ b.extract 0 nb ++ out.reverse),na,nb,out,mg,ac,bc))
noncomputable def hiTurn (a b:Array Keyed):MO×Nat×Nat×Array Keyed×Nat×Nat×Nat→StateT SortSt Sem (ForInStep (MO×Nat×Nat×Array Keyed×Nat×Nat×Nat)):=fun ⟨_,na,nb,out,mg,ac,bc⟩ =>
 if mg > 1 then hiTop a b out na nb (mg - 1) ac bc else hiTop a b out na nb mg ac bc
noncomputable def hiBoth (a b:Array Keyed):MO×Nat×Nat×Array Keyed×Nat→StateT SortSt Sem (ForInStep (MO×Nat×Nat×Array Keyed×Nat)):=fun ⟨_,na,nb,out,mg⟩=>do
 let s1 ← forIn [0:a.size + b.size] ((none,na,nb,out,0,0):MO×Nat×Nat×Array Keyed×Nat×Nat) (fun o9=>hiOne a b mg)
 match s1.1 with
 | some r=>pure (.done (some r,s1.2.1,s1.2.2.1,s1.2.2.2.1,mg))
 | none =>
  liftM (rule "list.sort.gallop")
  let s2 ← forIn [0:a.size + b.size] ((none,s1.2.1,s1.2.2.1,s1.2.2.2.1,mg + 1,s1.2.2.2.2.1,s1.2.2.2.2.2):MO×Nat×Nat×Array Keyed×Nat×Nat×Nat) (fun o9=>hiTurn a b)
  match s2.1 with
  | some r=>pure (.done (some r,s2.2.1,s2.2.2.1,s2.2.2.2.1,s2.2.2.2.2.1))
  | none =>
   setMinGallop' (s2.2.2.2.2.1 + 1)
   pure (.yield (none,s2.2.1,s2.2.2.1,s2.2.2.2.1,s2.2.2.2.2.1 + 1))
noncomputable def mergeHiN (a b:Array Keyed):StateT SortSt Sem (Array Keyed):=do
 liftM (rule "list.sort.merge-hi")
 let x ← elem' a (a.size - 1)
 if a.size - 1 == 0 then pure (a.extract 0 (a.size - 1) ++ b.extract 0 b.size ++ (#[x]:Array Keyed).reverse)
 else if b.size == 1 then pure (b.extract 0 b.size ++ a.extract 0 (a.size - 1) ++ (#[x]:Array Keyed).reverse)
 else
  let st ← get
  let s ← forIn [0:a.size + b.size] ((none,a.size - 1,b.size,#[x],gallopOf st):MO×Nat×Nat×Array Keyed×Nat) (fun o9=>hiBoth a b)
  match s.1 with
  | some r=>pure r
  | none=>liftM (unsupported "internal:list.sort.merge-bound":Sem (Array Keyed))
theorem mergeHi_eq (a b:Array Keyed):mergeHi' a b = mergeHiN a b:=by kernel_rfl
structure MIh (A₀ B₀ o A B:List Keyed):Prop where
 perm:(A ++ B ++ o).Perm (A₀ ++ B₀)
 srt:Srt o
 sa:Srt A
 sb:Srt B
 hi:∀ x∈A ++ B,∀ y∈o,kyp x≤kyp y
section
variable {A₀ B₀ o A B X:List Keyed}
theorem MIh.swap (h:MIh A₀ B₀ o A B):MIh B₀ A₀ o B A:=⟨(List.Perm.append_right _ List.perm_append_comm).trans (h.perm.trans List.perm_append_comm),h.srt,h.sb,h.sa,fun x hx y hy=>h.hi x (by rcases List.mem_append.mp hx with z | z <;> simp [z]) y hy⟩
theorem MIh.takeB (h:MIh A₀ B₀ o A (B ++ X)) (hX:∀ x∈X,∀ y∈A,kyp y≤kyp x):MIh A₀ B₀ (X ++ o) A B:=by
 obtain ⟨s1,s2,s3⟩:=List.pairwise_append.mp h.sb
 refine ⟨by have:=h.perm; simp only [List.append_assoc] at this ⊢; exact this,List.pairwise_append.mpr ⟨s2,h.srt,fun x hx y hy=>h.hi x (by simp [hx]) y hy⟩,h.sa,s1,fun x hx y hy=>?_⟩
 rcases List.mem_append.mp hy with q | q
 ·rcases List.mem_append.mp hx with z | z
  ·exact hX y q x z
  ·exact s3 x z y q
 ·exact h.hi x (by rcases List.mem_append.mp hx with z | z <;> simp [z]) y q
theorem MIh.takeA (h:MIh A₀ B₀ o (A ++ X) B) (hX:∀ x∈X,∀ y∈B,kyp y≤kyp x):MIh A₀ B₀ (X ++ o) A B:=(h.swap.takeB hX).swap
theorem MIh.done (h:MIh A₀ B₀ o A B) (hAB:∀ x∈A,∀ y∈B,kyp x≤kyp y):MG A₀ B₀ (A ++ B ++ o) :=
 ⟨h.perm,List.pairwise_append.mpr ⟨List.pairwise_append.mpr ⟨h.sa,h.sb,hAB⟩,h.srt,h.hi⟩⟩
theorem MIh.first (h:MIh A₀ B₀ o A B) (hBA:∀ x∈A,∀ y∈B,kyp y≤kyp x):MG A₀ B₀ (B ++ A ++ o):=by
 have:=h.swap.done fun x hx y hy=>hBA y hy x hx
 exact ⟨this.perm.trans List.perm_append_comm,this.srt⟩
end
noncomputable def MH (a b out:Array Keyed) (na nb:Nat):Prop:=MIh a.toList b.toList out.toList.reverse (a.toList.take na) (b.toList.take nb)
theorem take_split (a:Array Keyed) {i j:Nat} (h:i≤j):a.toList.take j = a.toList.take i ++ (a.extract i j).toList:=by
 rw [Array.toList_extract,List.extract_eq_take_drop]
 have e:j = i + (j - i):=by dict_keeps
 conv=>lhs; rw [e,List.take_add]
theorem take_snoc (a:Array Keyed) {i:Nat} (h:i < a.size):a.toList.take (i + 1) = a.toList.take i ++ [a[i]]:=by
 rw [List.take_add_one,List.getElem?_eq_getElem (by simpa using h)]; simp
theorem front_eq (a:Array Keyed) (i:Nat):(a.extract 0 i).toList = a.toList.take i:=by
 rw [Array.toList_extract,List.extract_eq_take_drop,List.drop_zero,Nat.sub_zero]
theorem K_take {a:Array Keyed} {i:Nat} (hi:i≤a.size) {y:Keyed} (hy:y∈a.toList.take i):∃ j,j < i∧kyp y = K a j:=by
 obtain ⟨k,hk,e⟩:=List.mem_iff_getElem.mp hy
 rw [List.length_take,Array.length_toList] at hk
 refine ⟨k,by dict_keeps,?_⟩
 rw [K_get (by dict_keeps),← e,List.getElem_take]; simp
theorem K_extr {a:Array Keyed} {i j:Nat} (h:j≤a.size) {y:Keyed} (hy:y∈(a.extract i j).toList):∃ k,i≤k∧k < j∧kyp y = K a k:=by
 obtain ⟨m,hm,e⟩:=List.mem_iff_getElem.mp hy
 simp only [Array.length_toList,Array.size_extract] at hm
 have hm':=Nat.add_lt_of_lt_sub' hm
 refine ⟨i + m,Nat.le_add_right _ _,Nat.lt_of_lt_of_le hm' (Nat.min_le_left _ _),?_⟩
 rw [K_get (Nat.lt_of_lt_of_le hm' (Nat.min_le_right _ _)),← e]; simp
section
variable {a b out:Array Keyed} {i j:Nat}
theorem MH.pushB (h:MH a b out i (j + 1)) (hi:i≤a.size) (hj:j < b.size) (hle:∀ x,x < i→K a x≤K b j):MH a b (out.push b[j]) i j:=by
 unfold MH at h ⊢
 rw [take_snoc b hj] at h
 rw [Array.toList_push,List.reverse_append]
 refine h.takeB fun x hx y hy=>?_
 obtain ⟨z,z1,z2⟩:=K_take hi hy
 rw [List.mem_singleton.mp hx,z2]
 have:=hle z z1
 rw [K_get hj] at this; exact this
theorem MH.pushA (h:MH a b out (i + 1) j) (hi:i < a.size) (hj:j≤b.size) (hle:∀ x,x < j→K b x≤K a i):MH a b (out.push a[i]) i j:=by
 unfold MH at h ⊢
 rw [take_snoc a hi] at h
 rw [Array.toList_push,List.reverse_append]
 refine h.takeA fun x hx y hy=>?_
 obtain ⟨z,z1,z2⟩:=K_take hj hy
 rw [List.mem_singleton.mp hx,z2]
 have:=hle z z1
 rw [K_get hi] at this; exact this
theorem MH.moreB {k:Nat} (h:MH a b out i j) (hk:k≤j) (hi:i≤a.size) (hj:j≤b.size) (hle:∀ x y,x < i→k≤y→y < j→K a x≤K b y):MH a b (out ++ (b.extract k j).reverse) i k:=by
 unfold MH at h ⊢
 rw [take_split b hk] at h
 rw [Array.toList_append,List.reverse_append,Array.toList_reverse,List.reverse_reverse]
 refine h.takeB fun x hx y hy=>?_
 obtain ⟨z,z1,z2⟩:=K_take hi hy
 obtain ⟨u,u1,u2,u3⟩:=K_extr hj hx
 rw [z2,u3]; exact hle z u z1 u1 u2
theorem MH.moreA {k:Nat} (h:MH a b out i j) (hk:k≤i) (hi:i≤a.size) (hj:j≤b.size) (hle:∀ x y,k≤x→x < i→y < j→K b y≤K a x):MH a b (out ++ (a.extract k i).reverse) k j:=by
 unfold MH at h ⊢
 rw [take_split a hk] at h
 rw [Array.toList_append,List.reverse_append,Array.toList_reverse,List.reverse_reverse]
 refine h.takeA fun x hx y hy=>?_
 obtain ⟨z,z1,z2⟩:=K_take hj hy
 obtain ⟨u,u1,u2,u3⟩:=K_extr hi hx
 rw [z2,u3]; exact hle u z u1 u2 z1
theorem MH.endA (h:MH a b out 0 j):MG a.toList b.toList (a.extract 0 0 ++ b.extract 0 j ++ out.reverse).toList:=by
 rw [Array.toList_append,Array.toList_append,front_eq,front_eq,Array.toList_reverse]
 exact h.done fun x hx=>by cases hx
theorem MH.endB (h:MH a b out i 0):MG a.toList b.toList (a.extract 0 i ++ b.extract 0 0 ++ out.reverse).toList:=by
 rw [Array.toList_append,Array.toList_append,front_eq,front_eq,Array.toList_reverse]
 exact h.done fun x o9 y hy=>by cases hy
theorem MH.firstB (h:MH a b out i 1) (hi:i≤a.size) (hb:0 < b.size) (hle:∀ x,x < a.size→K b 0≤K a x):MG a.toList b.toList (b.extract 0 1 ++ a.extract 0 i ++ out.reverse).toList:=by
 rw [Array.toList_append,Array.toList_append,front_eq,front_eq,Array.toList_reverse]
 refine h.first fun x hx y hy=>?_
 obtain ⟨z,z1,z2⟩:=K_take hi hx
 obtain ⟨u,u1,u2⟩:=K_take hb hy
 rw [z2,u2,show u = 0 by dict_keeps]
 exact hle z (by dict_keeps)
end
structure HiJ (a b out:Array Keyed) (na nb:Nat):Prop where
 h:MH a b out na nb
 ha:0 < na
 hb:1 < nb
 la:na≤a.size
 lb:nb≤b.size
structure HiQ (a b:Array Keyed) (n:Nat) (Q:ForInStep (MO×Nat×Nat×Array Keyed×Nat×Nat×Nat)→SortSt→Prop) (st:SortSt):Prop where
 one:∀ res out na nb mg ac bc st',SG st st'→MG a.toList b.toList res.toList→Q (.done (some res,na,nb,out,mg,ac,bc)) st'
 two:∀ out na nb mg ac bc st',SG st st'→HiJ a b out na nb→na + nb < n→Q (.done (none,na,nb,out,mg,ac,bc)) st'∧Q (.yield (none,na,nb,out,mg,ac,bc)) st'
theorem HiQ.less {a b:Array Keyed} {n m:Nat} {Q:ForInStep (MO×Nat×Nat×Array Keyed×Nat×Nat×Nat)→SortSt→Prop} {st st':SortSt} (q:HiQ a b n Q st) (h:m≤n) (hs:SG st st'):HiQ a b m Q st' :=
 ⟨fun res out ia ib mg ac bc st2 h1 h2=>q.one _ _ _ _ _ _ _ _ (hs.trans h1) h2,fun out ia ib mg ac bc st2 h1 h2 h3=>q.two _ _ _ _ _ _ _ (hs.trans h1) h2 (by dict_keeps)⟩
section
variable {prog:Program} {w:World} {A:Around} {E:Value→Shared→Prop} {s:Shared}
variable {a b:Array Keyed} (T:Two a b) (hfirst:∀ x,x < a.size→K b 0≤K a x)
include T hfirst
theorem hi_one {st:SortSt} {mg na nb ac bc:Nat} {r:MO} {out:Array Keyed} {Q:ForInStep (MO×Nat×Nat×Array Keyed×Nat×Nat)→SortSt→Prop} (hk:kindOf st = oneType') (J:HiJ a b out na nb)
  (q1:∀ res out na nb ac bc,MG a.toList b.toList res.toList→Q (.done (some res,na,nb,out,ac,bc)) st)
  (q2:∀ out na' nb' ac bc,HiJ a b out na' nb'→na' + nb' + 1 = na + nb→Q (.done (none,na',nb',out,ac,bc)) st∧Q (.yield (none,na',nb',out,ac,bc)) st) :
  wpS (model prog w) A E s (hiOne a b mg (r,na,nb,out,ac,bc)) Q st:=by
 obtain ⟨h,ha,hb,la,lb⟩:=J
 obtain ⟨i,rfl⟩:∃ i,na = i + 1:=⟨na - 1,by dict_keeps⟩
 obtain ⟨j,rfl⟩:∃ j,nb = j + 1:=⟨nb - 1,by dict_keeps⟩
 unfold hiOne
 dsimp only
 simp only [Nat.add_sub_cancel]
 refine wpS_bind (elem_at (by dict_keeps) (wpS_bind (elem_at (by dict_keeps) (wpS_bind (lt_keys hk (T.ib _ (by simp)) (T.ia _ (by simp)) ?_)))))
 have e:decide (numOf b[j].1 < numOf a[i].1) = decide (K b j < K a i):=by rw [K_get (by dict_keeps),K_get (by dict_keeps)]
 rw [e]
 dsimp only
 by_cases hlt:K b j < K a i
 ·refine wps_pos (by simpa using hlt) ?_
  have h2:=h.pushA (by dict_keeps) lb fun x hx=>Int.le_of_lt (Int.lt_of_le_of_lt (T.sb.K (by dict_keeps) (by dict_keeps)) hlt)
  refine wpS_bind (elem_at (by dict_keeps) ?_)
  by_cases hend:i = 0
  ·refine wps_pos (by simpa using hend) ?_
   subst hend
   exact wpS_pure (q1 _ _ _ _ _ _ h2.endA)
  ·refine wps_neg (by simpa using hend) ?_
   have:=q2 (out.push a[i]) i (j + 1) (ac + 1) 0 ⟨h2,by dict_keeps,hb,by dict_keeps,lb⟩ (by dict_keeps)
   split
   ·exact wpS_pure this.1
   ·exact wpS_pure this.2
 ·refine wps_neg (by simpa using hlt) ?_
  have h2:=h.pushB la (by dict_keeps) fun x hx=>Int.le_trans (T.sa.K (by dict_keeps) (by dict_keeps)) (Int.not_lt.mp hlt)
  refine wpS_bind (elem_at (by dict_keeps) ?_)
  by_cases hend:j = 1
  ·refine wps_pos (by simpa using hend) ?_
   subst hend
   exact wpS_pure (q1 _ _ _ _ _ _ (h2.firstB la (by dict_keeps) hfirst))
  ·refine wps_neg (by simpa using hend) ?_
   have:=q2 (out.push b[j]) (i + 1) j 0 (bc + 1) ⟨h2,ha,by dict_keeps,la,by dict_keeps⟩ (by dict_keeps)
   split
   ·exact wpS_pure this.1
   ·exact wpS_pure this.2
theorem hi_end {st:SortSt} {out:Array Keyed} {na nb mg ac bc:Nat} {Q:ForInStep (MO×Nat×Nat×Array Keyed×Nat×Nat×Nat)→SortSt→Prop} (J:HiJ a b out na nb) (hle:∀ x,x < nb→K b x≤K a (na - 1)) (q:HiQ a b (na + nb) Q st):wpS (model prog w) A E s (hiEnd a b out na nb mg ac bc) Q st:=by
 obtain ⟨h,ha,hb,la,lb⟩:=J
 obtain ⟨i,rfl⟩:∃ i,na = i + 1:=⟨na - 1,by dict_keeps⟩
 unfold hiEnd
 simp only [Nat.add_sub_cancel] at hle ⊢
 refine wpS_bind (elem_at (by dict_keeps) ?_)
 have h2:=h.pushA (by dict_keeps) lb hle
 by_cases hend:i = 0
 ·refine wps_pos (by simpa using hend) ?_
  subst hend
  exact wpS_pure (q.one _ _ _ _ _ _ _ _ (.refl _) h2.endA)
 ·refine wps_neg (by simpa using hend) ?_
  have:=q.two (out.push a[i]) i nb mg ac bc st (.refl _) ⟨h2,by dict_keeps,hb,by dict_keeps,lb⟩ (by dict_keeps)
  split
  ·exact wpS_pure this.1
  ·exact wpS_pure this.2
theorem hi_mid {st:SortSt} {out:Array Keyed} {na nb mg ac bc:Nat} {Q:ForInStep (MO×Nat×Nat×Array Keyed×Nat×Nat×Nat)→SortSt→Prop} (hk:kindOf st = oneType') (J:HiJ a b out na nb) (hle:∀ x,x < na→K a x≤K b (nb - 1)) (q:HiQ a b (na + nb) Q st):wpS (model prog w) A E s (hiMid a b out na nb mg ac bc) Q st:=by
 obtain ⟨h,ha,hb,la,lb⟩:=J
 obtain ⟨j,rfl⟩:∃ j,nb = j + 1:=⟨nb - 1,by dict_keeps⟩
 unfold hiMid
 simp only [Nat.add_sub_cancel] at hle ⊢
 refine wpS_bind (elem_at (by dict_keeps) ?_)
 have h2:=h.pushB la (by dict_keeps) hle
 by_cases hend:j = 1
 ·refine wps_pos (by simpa using hend) ?_
  subst hend
  exact wpS_pure (q.one _ _ _ _ _ _ _ _ (.refl _) (h2.firstB la (by dict_keeps) hfirst))
 ·refine wps_neg (by simpa using hend) ?_
  refine wpS_bind (elem_at (by dict_keeps) (wpS_bind (gallop_at hk (T.ia _ (by simp)) T.ib (by dict_keeps) (by dict_keeps) (T.sb.seg 0 j (by dict_keeps)) fun k k1 k2 k3=>?_)))
  have hK:numOf a[na - 1].1 = K a (na - 1):=(K_get (by dict_keeps)).symm
  rw [hK] at k2 k3
  simp only [Nat.zero_add] at k2 k3
  dsimp only
  by_cases hk0:j - k > 0
  ·refine wps_pos hk0 ?_
   have h3:=h2.moreB (k:=k) k1 la (by dict_keeps) fun x y h1 h3 h4=>Int.le_trans (T.sa.K (by dict_keeps) (by dict_keeps)) (Bf_true'.mp (k3 y h3 h4))
   by_cases e1:k = 1
   ·refine wps_pos (by simpa using e1) ?_
    subst e1
    exact wpS_pure (q.one _ _ _ _ _ _ _ _ (.refl _) (h3.firstB la (by dict_keeps) hfirst))
   ·refine wps_neg (by simpa using e1) ?_
    by_cases e2:k = 0
    ·refine wps_pos (by simpa using e2) ?_
     subst e2
     exact wpS_pure (q.one _ _ _ _ _ _ _ _ (.refl _) h3.endB)
    ·refine wps_neg (by simpa using e2) ?_
     exact hi_end T hfirst ⟨h3,ha,by dict_keeps,la,by dict_keeps⟩ (fun x hx=>Int.le_of_lt (Bf_true.mp (k2 x hx))) (q.less (by dict_keeps) (.refl _))
  ·refine wps_neg hk0 ?_
   exact hi_end T hfirst ⟨h2,ha,by dict_keeps,la,by dict_keeps⟩ (fun x hx=>Int.le_of_lt (Bf_true.mp (k2 x (by dict_keeps)))) (q.less (by dict_keeps) (.refl _))
theorem hi_top {st:SortSt} {out:Array Keyed} {na nb mg ac bc:Nat} {Q:ForInStep (MO×Nat×Nat×Array Keyed×Nat×Nat×Nat)→SortSt→Prop} (hk:kindOf st = oneType') (J:HiJ a b out na nb) (q:HiQ a b (na + nb) Q st):wpS (model prog w) A E s (hiTop a b out na nb mg ac bc) Q st:=by
 obtain ⟨h,ha,hb,la,lb⟩:=J
 unfold hiTop
 rw [setMin_eq]
 refine wpS_bind (wpS_modify (wpS_bind (elem_at (by dict_keeps) (wpS_bind (gallop_at hk (T.ib _ (by simp)) T.ia (by dict_keeps) (by dict_keeps) (T.sa.seg 0 na (by dict_keeps)) fun k k1 k2 k3=>?_)))))
 have sg:SG st (SortSt.mk' (kindOf st) (arrOf st) (pendingOf st) mg (failedOf st)):=⟨rfl,rfl,rfl,rfl⟩
 have hK:numOf b[nb - 1].1 = K b (nb - 1):=(K_get (by dict_keeps)).symm
 rw [hK] at k2 k3
 simp only [Nat.zero_add] at k2 k3
 dsimp only
 by_cases hk0:na - k > 0
 ·refine wps_pos hk0 ?_
  have h3:=h.moreA (k:=k) k1 la lb fun x y h1 h2 h3=>Int.le_trans (T.sb.K (by dict_keeps) (by dict_keeps)) (Int.le_of_lt (Bf_false'.mp (k3 x h1 h2)))
  by_cases e1:k = 0
  ·refine wps_pos (by simpa using e1) ?_
   subst e1
   exact wpS_pure (q.one _ _ _ _ _ _ _ _ sg h3.endA)
  ·refine wps_neg (by simpa using e1) ?_
   exact hi_mid T hfirst hk ⟨h3,by dict_keeps,hb,by dict_keeps,lb⟩ (fun x hx=>Bf_false.mp (k2 x hx)) (q.less (by dict_keeps) sg)
 ·refine wps_neg hk0 ?_
  exact hi_mid T hfirst hk ⟨h,ha,hb,la,lb⟩ (fun x hx=>Bf_false.mp (k2 x (by dict_keeps))) (q.less (by dict_keeps) sg)
theorem hi_both {st:SortSt} {out:Array Keyed} {na nb mg:Nat} {r:MO} {Q:ForInStep (MO×Nat×Nat×Array Keyed×Nat)→SortSt→Prop} (hk:kindOf st = oneType') (J:HiJ a b out na nb)
  (q1:∀ res out na nb mg st',SG st st'→MG a.toList b.toList res.toList→Q (.done (some res,na,nb,out,mg)) st')
  (q2:∀ out na' nb' mg st',SG st st'→HiJ a b out na' nb'→na' + nb' < na + nb→Q (.yield (none,na',nb',out,mg)) st') :
  wpS (model prog w) A E s (hiBoth a b (r,na,nb,out,mg)) Q st:=by
 unfold hiBoth
 dsimp only
 have la:=J.la
 have lb:=J.lb
 refine wpS_bind (wpS_mono (wpS_forRange (I:=fun x c st'=>st' = st∧∃ out na' nb' ac bc,c = (none,na',nb',out,ac,bc)∧HiJ a b out na' nb'∧na' + nb' + x≤na + nb) (Q:=fun c st'=>st' = st∧((∃ res,c.1 = some res∧MG a.toList b.toList res.toList)∨∃ out na' nb' ac bc,c = (none,na',nb',out,ac,bc)∧HiJ a b out na' nb'∧na' + nb' < na + nb)) ?step ?fin ⟨rfl,out,na,nb,0,0,rfl,J,by dict_keeps⟩) ?post)
 case fin =>
  rintro c st' ⟨e1,out,na',nb',ac,bc,e2,J',hx⟩
  rw [Nat.max_eq_right (Nat.zero_le _)] at hx
  exact no_more (Nat.add_pos_left J'.ha _) hx la lb
 case step =>
  rintro x c st' o9 hx ⟨e1,out,na',nb',ac,bc,e2,J',hx2⟩
  subst e1 e2
  exact hi_one T hfirst hk J' (fun res o9 o9 o9 o9 o9 hm=>⟨rfl,.inl ⟨res,rfl,hm⟩⟩) fun out na2 nb2 ac bc J2 h2=>⟨⟨rfl,.inr ⟨out,na2,nb2,ac,bc,rfl,J2,by dict_keeps⟩⟩,rfl,out,na2,nb2,ac,bc,rfl,J2,by dict_keeps⟩
 case post =>
  rintro c st' ⟨e1,hc⟩
  subst e1
  rcases hc with ⟨res,hr,hm⟩ | ⟨out,na',nb',ac,bc,e2,J',hx⟩
  ·obtain ⟨r,na',nb',out,ac,bc⟩:=c
   dsimp only at hr
   subst hr
   exact wpS_pure (q1 _ _ _ _ _ _ (.refl _) hm)
  ·subst e2
   dsimp only
   refine wpS_bind (wpS_lift (wpAny_rule ⟨rfl,?_⟩))
   refine wpS_bind (wpS_mono (wpS_forRange (I:=fun x c st2=>SG st' st2∧∃ out na2 nb2 mg ac bc,c = (none,na2,nb2,out,mg,ac,bc)∧HiJ a b out na2 nb2∧na2 + nb2 + x≤na' + nb') (Q:=fun c st2=>SG st' st2∧((∃ res,c.1 = some res∧MG a.toList b.toList res.toList)∨∃ out na2 nb2 mg ac bc,c = (none,na2,nb2,out,mg,ac,bc)∧HiJ a b out na2 nb2∧na2 + nb2 < na' + nb')) ?step2 ?fin2 ⟨.refl _,out,na',nb',mg + 1,ac,bc,rfl,J',by dict_keeps⟩) ?post2)
   case fin2 =>
    rintro c st2 ⟨e1,out,na2,nb2,mg,ac,bc,e2,J2,hx2⟩
    rw [Nat.max_eq_right (Nat.zero_le _)] at hx2
    exact no_more (Nat.add_pos_left J2.ha _) (Nat.le_trans hx2 (Nat.le_of_lt hx)) la lb
   case step2 =>
    rintro x c st2 o9 hx2 ⟨e1,out,na2,nb2,mg,ac,bc,e2,J2,hx3⟩
    subst e2
    unfold hiTurn
    dsimp only
    split
    all_goals exact hi_top T hfirst (e1.k.trans hk) J2 ⟨fun res out i j mg ac bc st3 h1 h2=>⟨e1.trans h1,.inl ⟨res,rfl,h2⟩⟩,fun out i j mg ac bc st3 h1 h2 h3=>⟨⟨e1.trans h1,.inr ⟨out,i,j,mg,ac,bc,rfl,h2,by dict_keeps⟩⟩,e1.trans h1,out,i,j,mg,ac,bc,rfl,h2,by dict_keeps⟩⟩
   case post2 =>
    rintro c st2 ⟨e1,hc⟩
    rcases hc with ⟨res,hr,hm⟩ | ⟨out,na2,nb2,mg2,ac,bc,e2,J2,hx2⟩
    ·obtain ⟨r,na2,nb2,out,mg2,ac,bc⟩:=c
     dsimp only at hr
     subst hr
     exact wpS_pure (q1 _ _ _ _ _ _ e1 hm)
    ·subst e2
     dsimp only
     rw [setMin_eq]
     exact wpS_bind (wpS_modify (wpS_pure (q2 _ _ _ _ _ (e1.trans ⟨rfl,rfl,rfl,rfl⟩) J2 (by dict_keeps))))
theorem merge_hi {st:SortSt} {Q:Array Keyed→SortSt→Prop} (hk:kindOf st = oneType') (ha:0 < a.size) (hb:0 < b.size) (hle:∀ y,y < b.size→K b y≤K a (a.size - 1))
  (q:∀ res st',SG st st'→MG a.toList b.toList res.toList→Q res st'):wpS (model prog w) A E s (mergeHi' a b) Q st:=by
 rw [mergeHi_eq]
 unfold mergeHiN
 obtain ⟨i,hi⟩:∃ i,a.size = i + 1:=⟨a.size - 1,by dict_keeps⟩
 have e0:a.size - 1 = i:=by dict_keeps
 rw [e0] at hle ⊢
 refine wpS_bind (wpS_lift (wpAny_rule ⟨rfl,wpS_bind (elem_at (by dict_keeps) ?_)⟩))
 have h0:MH a b #[] (i + 1) b.size:=by
  have ea:a.toList.take (i + 1) = a.toList:=List.take_of_length_le (by rw [Array.length_toList]; dict_keeps)
  have eb:b.toList.take b.size = b.toList:=List.take_of_length_le (by rw [Array.length_toList]; exact Nat.le_refl _)
  exact ⟨by simp [ea,eb],.nil,by rw [ea]; exact T.sa,by rw [eb]; exact T.sb,fun x o9 y h=>by simp at h⟩
 have h1:MH a b #[a[i]] i b.size:=h0.pushA (by dict_keeps) (Nat.le_refl _) hle
 by_cases e1:i = 0
 ·refine wps_pos (by simpa using e1) ?_
  subst e1
  exact wpS_pure (q _ _ (.refl _) h1.endA)
 ·refine wps_neg (by simpa using e1) ?_
  by_cases e2:b.size = 1
  ·refine wps_pos (by simpa using e2) ?_
   refine wpS_pure (q _ _ (.refl _) ?_)
   have h2:MH a b #[a[i]] i 1:=by rw [← e2]; exact h1
   have:=h2.firstB (by dict_keeps) (by dict_keeps) hfirst
   rw [e2]; exact this
  ·refine wps_neg (by simpa using e2) ?_
   refine wpS_bind (wpS_get (wpS_bind (wpS_mono (wpS_forRange (I:=fun x c st'=>SG st st'∧∃ out na nb mg,c = (none,na,nb,out,mg)∧HiJ a b out na nb∧na + nb + x≤i + b.size) (Q:=fun c st'=>SG st st'∧∃ res,c.1 = some res∧MG a.toList b.toList res.toList) ?step ?fin ⟨.refl _,#[a[i]],i,b.size,_,rfl,⟨h1,by dict_keeps,by dict_keeps,by dict_keeps,Nat.le_refl _⟩,by dict_keeps⟩) ?post)))
   case fin =>
    rintro c st' ⟨_,out,na,nb,mg,_,J,hx⟩
    have:=J.ha
    have:=J.hb
    rw [Nat.max_eq_right (Nat.zero_le _)] at hx
    dict_keeps
   case step =>
    rintro x c st' o9 hx ⟨sg,out,na,nb,mg,e,J,hx2⟩
    subst e
    exact hi_both T hfirst (sg.k.trans hk) J (fun res o9 o9 o9 o9 st2 h1 h2=>⟨sg.trans h1,res,rfl,h2⟩) fun out i j mg st2 h1 h2 h3=>⟨sg.trans h1,out,i,j,mg,rfl,h2,by dict_keeps⟩
   case post =>
    rintro ⟨r,na,nb,out,mg⟩ st' ⟨sg,res,hr,hm⟩
    dsimp only at hr
    subst hr
    exact wpS_pure (q res st' sg hm)
end
section
variable {prog:Program} {w:World} {A:Around} {E:Value→Shared→Prop} {s:Shared} {a₀:Array Keyed}
theorem bin_sort {st:SortSt} {lo n ok:Nat} {Q:Bool→SortSt→Prop} (h0:IntKeys a₀) (hn:lo + n≤a₀.size) (h1:1≤ok) (hok:ok≤n) (hB:SB a₀ st) (sg:Seg (arrOf st) lo (lo + ok))
  (h:∀ xs,xs.Perm (arrOf st)→(∀ k,k < lo→K xs k = K (arrOf st) k)→Seg xs lo (lo + n)→Q true (setArr st xs)):wpS (model prog w) A E s (binarySort' lo n ok) Q st:=by
 rw [binarySort'_eq]
 refine wpS_bind (wpS_mono (wpS_forRange (I:=fun k c st'=>c = (none,())∧∃ xs,st' = setArr st xs∧xs.Perm (arrOf st)∧(∀ k,k < lo→K xs k = K (arrOf st) k)∧Seg xs lo (lo + k)) (Q:=fun c st'=>c = (none,())∧∃ xs,st' = setArr st xs∧xs.Perm (arrOf st)∧(∀ k,k < lo→K xs k = K (arrOf st) k)∧Seg xs lo (lo + n)) ?step ?fin ?init) ?post)
 case init =>
  rw [Nat.max_eq_left h1]
  exact ⟨rfl,arrOf st,rfl,Array.Perm.refl _,fun o9 o9=>rfl,sg⟩
 case fin =>
  rintro c st' ⟨e,xs,h1,h2,h3,h4⟩
  rw [show max (max ok 1) n = n by dict_keeps] at h4
  exact ⟨e,xs,h1,h2,h3,h4⟩
 case post =>
  rintro c st' ⟨e,xs,h1,h2,h3,h4⟩
  subst e h1
  exact wpS_pure (h xs h2 h3 h4)
 case step =>
  rintro k c st' hk1 hk2 ⟨e,xs,e1,px,same,sgk⟩
  subst e e1
  have hB2:=hB.set px
  have hxs:xs.size = a₀.size:=by rw [px.size_eq]; exact hB.size
  have hk:lo + k < a₀.size:=Nat.lt_of_lt_of_le (Nat.add_lt_add_left hk2 _) hn
  refine wpS_bind (wpS_mono (wpS_forRange (I:=fun x c st''=>st'' = setArr st xs∧∃ l r,c = (none,l,r)∧l≤r∧r≤k∧r + x≤l + k∧(∀ i,i < l→K xs (lo + i)≤K xs (lo + k))∧(∀ i,r≤i→i < k→K xs (lo + k) < K xs (lo + i)))
   (Q:=fun c st''=>st'' = setArr st xs∧∃ l r,c = (none,l,r)∧l≤k∧(∀ i,i < l→K xs (lo + i)≤K xs (lo + k))∧(∀ i,l≤i→i < k→K xs (lo + k) < K xs (lo + i))) ?istep ?ifin ⟨rfl,0,k,rfl,by dict_keeps,by dict_keeps,by dict_keeps,fun i hi=>by dict_keeps,fun i h1 h2=>by dict_keeps⟩) ?ipost)
  case ifin =>
   rintro c st'' ⟨e,l,r,e2,h1,h2,h3,h4,h5⟩
   have:l = r:=by dict_keeps
   subst this
   exact ⟨e,l,l,e2,h2,h4,h5⟩
  case istep =>
   rintro x c st'' o9 hx ⟨e,l,r,e2,h1,h2,h3,h4,h5⟩
   subst e e2
   dsimp only
   by_cases q:l ≥ r
   ·refine wps_pos q ?_
    have:l = r:=by dict_keeps
    subst this
    exact wpS_pure ⟨rfl,l,l,rfl,h2,h4,h5⟩
   ·refine wps_neg q ?_
    obtain ⟨m1,m2⟩:=half_in (Nat.not_le.mp q)
    refine wpS_bind (lt_at hB2 h0 hk (Nat.lt_trans (Nat.add_lt_add_left (Nat.lt_of_lt_of_le m2 h2) _) hk) ?_)
    have e3:arrOf (setArr st xs) = xs:=rfl
    rw [e3]
    by_cases hl:K xs (lo + k) < K xs (lo + (l + r) / 2)
    ·refine wps_pos (decide_eq_true hl) ?_
     exact wpS_pure ⟨rfl,l,(l + r) / 2,rfl,m1,Nat.le_trans (Nat.le_of_lt m2) h2,Nat.le_trans (by rw [Nat.add_comm x,← Nat.add_assoc]; exact Nat.add_le_add_right m2 x) h3,h4,fun i h6 h7=>Int.lt_of_lt_of_le hl (sgk _ _ (Nat.le_add_right _ _) (Nat.add_le_add_left h6 _) (Nat.add_lt_add_left h7 _))⟩
    ·refine wps_neg (fun z=>hl (of_decide_eq_true z)) ?_
     exact wpS_pure ⟨rfl,(l + r) / 2 + 1,r,rfl,m2,h2,by rw [← Nat.add_assoc,Nat.add_right_comm ((l + r) / 2) 1 k]; exact Nat.succ_le_succ (Nat.le_trans h3 (Nat.add_le_add_right m1 k)),fun i h6=>Int.le_trans (sgk _ _ (Nat.le_add_right _ _) (Nat.add_le_add_left (Nat.le_of_lt_succ h6) _) (Nat.add_lt_add_left (Nat.lt_of_lt_of_le m2 h2) _)) (Int.not_lt.mp hl),h5⟩
  case ipost =>
   rintro c st'' ⟨e,l,r,e2,h1,h2,h3⟩
   subst e e2
   show wpS _ _ _ _ (do moveDown' (lo + k) (lo + l); pure (ForInStep.yield (none,()))) _ _
   rw [moveDown'_eq]
   have hm:lo + k - (lo + k - (lo + l)) = lo + l:=Nat.sub_sub_self (Nat.add_le_add_left h1 _)
   have eb:∀ j,K (bubble xs (lo + k) (lo + k - (lo + l))) j = if j = lo + k - (lo + k - (lo + l)) then K xs (lo + k) else if lo + k - (lo + k - (lo + l)) < j∧j≤lo + k then K xs (j - 1) else K xs j:=K_bubble (by rw [hxs]; exact hk) (Nat.sub_le _ _)
   rw [hm] at eb
   have hpm:(bubble xs (lo + k) (lo + k - (lo + l))).Perm (arrOf st):=(bubble_perm _ _ _).trans px
   suffices main:(∀ j,j < lo→K (bubble xs (lo + k) (lo + k - (lo + l))) j = K (arrOf st) j)∧Seg (bubble xs (lo + k) (lo + k - (lo + l))) lo (lo + (k + 1)) from wpS_bind (wpS_modify (wpS_pure ⟨rfl,bubble xs (lo + k) (lo + k - (lo + l)),rfl,hpm,main.1,main.2⟩))
   clear hpm
   generalize bubble xs (lo + k) (lo + k - (lo + l)) = ys at eb ⊢
   have b1:∀ j,j < lo + l→K ys j = K xs j:=fun j hj=>by rw [eb,if_neg (Nat.ne_of_lt hj),if_neg fun z=>Nat.lt_asymm hj z.1]
   have b2:K ys (lo + l) = K xs (lo + k):=by rw [eb,if_pos rfl]
   have b3:∀ j,l≤j→j < k→K ys (lo + j + 1) = K xs (lo + j):=fun j h6 h7=>by
    have z:=Nat.lt_succ_of_le (Nat.add_le_add_left h6 lo)
    rw [eb,if_neg (Nat.ne_of_gt z),if_pos ⟨z,Nat.add_lt_add_left h7 _⟩]; rfl
   have at':∀ i,lo≤i→i < lo + (k + 1)→(∃ t,t < l∧i = lo + t)∨i = lo + l∨∃ t,l≤t∧t < k∧i = lo + t + 1:=fun i h4 h5=>by
    obtain ⟨t,rfl⟩:=Nat.exists_eq_add_of_le h4
    have h5:=Nat.lt_of_add_lt_add_left h5
    rcases Nat.lt_trichotomy t l with q | q | q
    ·exact .inl ⟨t,q,rfl⟩
    ·subst q; exact .inr (.inl rfl)
    ·obtain ⟨t',rfl⟩:=Nat.exists_eq_add_of_le' (Nat.lt_of_le_of_lt (Nat.zero_le _) q)
     exact .inr (.inr ⟨t',Nat.le_of_lt_succ q,Nat.lt_of_succ_lt_succ h5,rfl⟩)
   refine ⟨fun j hj=>(b1 j (Nat.lt_of_lt_of_le hj (Nat.le_add_right _ _))).trans (same j hj),fun i j h4 h5 h6=>?_⟩
   have up:∀ {a b:Nat},a≤b→b < k→K xs (lo + a)≤K xs (lo + b):=fun p q=>sgk _ _ (Nat.le_add_right _ _) (Nat.add_le_add_left p _) (Nat.add_lt_add_left q _)
   rcases at' j (Nat.le_trans h4 h5) h6 with ⟨u,u1,rfl⟩ | rfl | ⟨u,u1,u2,rfl⟩
   ·rcases at' i h4 (Nat.lt_of_le_of_lt h5 h6) with ⟨t,t1,rfl⟩ | rfl | ⟨t,t1,t2,rfl⟩
    ·rw [b1 _ (Nat.add_lt_add_left t1 _),b1 _ (Nat.add_lt_add_left u1 _)]
     exact up (Nat.le_of_add_le_add_left h5) (Nat.lt_of_lt_of_le u1 h1)
    ·exact absurd (Nat.lt_of_le_of_lt (Nat.le_of_add_le_add_left h5) u1) (Nat.lt_irrefl _)
    ·exact absurd (Nat.lt_of_le_of_lt t1 (Nat.lt_trans (Nat.lt_of_add_lt_add_left (Nat.lt_of_lt_of_le (Nat.lt_succ_self (lo + t)) h5)) u1)) (Nat.lt_irrefl _)
   ·rw [b2]
    rcases at' i h4 (Nat.lt_of_le_of_lt h5 h6) with ⟨t,t1,rfl⟩ | rfl | ⟨t,t1,t2,rfl⟩
    ·rw [b1 _ (Nat.add_lt_add_left t1 _)]; exact h2 t t1
    ·rw [b2]; exact Int.le_refl _
    ·exact absurd (Nat.lt_of_lt_of_le (Nat.lt_succ_of_le (Nat.add_le_add_left t1 lo)) h5) (Nat.lt_irrefl _)
   ·rw [b3 u u1 u2]
    rcases at' i h4 (Nat.lt_of_le_of_lt h5 h6) with ⟨t,t1,rfl⟩ | rfl | ⟨t,t1,t2,rfl⟩
    ·rw [b1 _ (Nat.add_lt_add_left t1 _)]; exact up (Nat.le_trans (Nat.le_of_lt t1) u1) u2
    ·rw [b2]; exact Int.le_of_lt (h3 u u1 u2)
    ·rw [b3 t t1 t2]; exact up (Nat.le_of_add_le_add_left (Nat.le_of_succ_le_succ h5)) u2
end
theorem fold_set:∀ (l:List Keyed) (a:Array Keyed) (base n:Nat),base + n + l.length≤a.size→((l.zipIdx n).foldl (fun a q=>a.setIfInBounds (base + q.2) q.1) a).toList = a.toList.take (base + n) ++ l ++ a.toList.drop (base + n + l.length)
 | [],a,base,n,_=>by simp
 | p :: l,a,base,n,h=>by
  rw [List.length_cons] at h
  rw [List.zipIdx_cons,List.foldl_cons,fold_set l _ base (n + 1) (by simp; dict_keeps)]
  have hlt:base + n < a.toList.length:=by rw [Array.length_toList]; dict_keeps
  have e1:(a.setIfInBounds (base + n) p).toList = a.toList.set (base + n) p:=by simp
  show List.take _ (a.setIfInBounds (base + n) p).toList ++ l ++ List.drop _ (a.setIfInBounds (base + n) p).toList = _
  rw [e1,List.length_cons,show base + (n + 1) = base + n + 1 by dict_keeps,List.take_succ_eq_append_getElem (by simpa using hlt),List.getElem_set_self,List.take_set_of_le (Nat.le_refl _),List.drop_set_of_lt (by dict_keeps),show base + n + 1 + l.length = base + n + (l.length + 1) by dict_keeps]
  simp
theorem mergeAt'_eq (i:Nat):mergeAt' i = (do
 let s ← get
 let (some (sa,na,power),some (sb,nb,_)):=((pendingOf s)[i]?,(pendingOf s)[i + 1]?) | unsupported "internal:list.sort.pending"
 set (setPending s (((pendingOf s).setIfInBounds i (sa,na + nb,power)).eraseIdxIfInBounds (i + 1)))
 let some k ← gallop' false (← elem' (arrOf s) sb) (arrOf s) sa na 0 | return false
 let (sa,na):=(sa + k,na - k)
 if na == 0 then return true
 let some nb ← gallop' true (← elem' (arrOf s) (sa + na - 1)) (arrOf s) sb nb (nb - 1) | return false
 if nb == 0 then return true
 let x:=(arrOf s).extract sa sb
 let y:=(arrOf s).extract sb (sb + nb)
 let merged ← if na≤nb then mergeLo' x y else mergeHi' x y
 modify fun s=>setArr s (merged.toList.zipIdx.foldl (fun a (p,j)=>a.setIfInBounds (sa + j) p) (arrOf s))
 return (failedOf (← get)).isNone):=rfl
theorem K_list (xs:Array Keyed) (i:Nat):K xs i = match xs.toList[i]? with | some p=>kyp p | none=>0:=by
 unfold K; rw [← Array.getElem?_toList]; cases xs.toList[i]? <;> rfl
theorem seg_put {a xs:Array Keyed} {P M R M':List Keyed} (ha:a.toList = P ++ M ++ R) (hx:xs.toList = P ++ M' ++ R) (pm:M'.Perm M) (sm:Srt M'):xs.Perm a∧(∀ k,k < P.length∨P.length + M.length≤k→K xs k = K a k)∧Seg xs P.length (P.length + M.length):=by
 have hl:=pm.length_eq
 refine ⟨Array.perm_iff_toList_perm.mpr ?_,fun k hk=>?_,fun i j h1 h2 h3=>?_⟩
 ·rw [ha,hx]; exact (pm.append_left P).append_right R
 ·rw [K_list,K_list,ha,hx]
  have e:(P ++ M' ++ R)[k]? = (P ++ M ++ R)[k]?:=by
   rw [List.append_assoc,List.append_assoc]
   rcases hk with hk | hk
   ·rw [List.getElem?_append_left hk,List.getElem?_append_left hk]
   ·rw [List.getElem?_append_right (by dict_keeps),List.getElem?_append_right (by dict_keeps),List.getElem?_append_right (by dict_keeps),List.getElem?_append_right (by dict_keeps),hl]
  rw [e]
 ·have lt':∀ {k},P.length≤k→k < P.length + M.length→k - P.length < M'.length:=fun a b=>hl ▸ Nat.sub_lt_left_of_lt_add a b
  have at':∀ k,P.length≤k→k < P.length + M.length→∃ h:k - P.length < M'.length,K xs k = kyp M'[k - P.length]:=fun k a b=>by
   refine ⟨lt' a b,?_⟩
   rw [K_list,hx,List.append_assoc,List.getElem?_append_right a,List.getElem?_append_left (lt' a b),List.getElem?_eq_getElem (lt' a b)]
  obtain ⟨k1,e1⟩:=at' i h1 (Nat.lt_of_le_of_lt h2 h3)
  obtain ⟨k2,e2⟩:=at' j (Nat.le_trans h1 h2) h3
  rw [e1,e2]
  rcases Nat.lt_or_ge i j with q | q
  ·exact List.pairwise_iff_getElem.mp sm _ _ k1 k2 (Nat.sub_lt_sub_right h1 q)
  ·obtain rfl:i = j:=Nat.le_antisymm h2 q
   exact Int.le_refl _
theorem srt_ext {a:Array Keyed} {lo hi:Nat} (h:Seg a lo hi) (hh:hi≤a.size):Srt (a.extract lo hi).toList:=by
 refine List.pairwise_iff_getElem.mpr fun i j hi' hj hij=>?_
 simp only [Array.length_toList,Array.size_extract] at hi' hj
 have hi2:=Nat.add_lt_of_lt_sub' hi'
 have hj2:=Nat.add_lt_of_lt_sub' hj
 have:=h (lo + i) (lo + j) (Nat.le_add_right _ _) (Nat.add_le_add_left (Nat.le_of_lt hij) _) (Nat.lt_of_lt_of_le hj2 (Nat.min_le_left _ _))
 rw [K_get (Nat.lt_of_lt_of_le hi2 (Nat.min_le_right _ _)),K_get (Nat.lt_of_lt_of_le hj2 (Nat.min_le_right _ _))] at this
 simpa using this
theorem K_extract {a:Array Keyed} {lo hi j:Nat} (hh:hi≤a.size) (hj:lo + j < hi):K (a.extract lo hi) j = K a (lo + j):=by
 unfold K
 rw [Array.getElem?_extract]
 rw [if_pos (by rw [Nat.min_eq_left hh]; exact Nat.lt_sub_iff_add_lt'.mpr hj)]
theorem cut5 (a:Array Keyed) {i j k l m:Nat} (h1:i≤j) (h2:j≤k) (h3:k≤l) (h4:l≤m) (h5:m≤a.size):a.toList = a.toList.take i ++ ((a.extract i j).toList ++ ((a.extract j k).toList ++ (a.extract k l).toList) ++ (a.extract l m).toList) ++ a.toList.drop m:=by
 have e1:=take_split a h1
 have e2:=take_split a h2
 have e3:=take_split a h3
 have e4:=take_split a h4
 conv=>lhs; rw [← List.take_append_drop m a.toList,e4,e3,e2,e1]
 simp only [List.append_assoc]
theorem mem_ext {a:Array Keyed} {i j:Nat} {p:Keyed} (h:p∈(a.extract i j).toList):p∈a.toList:=by
 rw [Array.toList_extract,List.extract_eq_take_drop] at h
 exact List.mem_of_mem_drop (List.mem_of_mem_take h)
theorem len_ext {a:Array Keyed} {i j:Nat} (h:i + j≤a.size):(a.extract i (i + j)).toList.length = j:=by
 rw [Array.length_toList,Array.size_extract,Nat.min_eq_left h,Nat.add_sub_cancel_left]
theorem mem_off {a:Array Keyed} {i j:Nat} {p:Keyed} (h:i + j≤a.size) (hp:p∈(a.extract i (i + j)).toList):∃ t,t < j∧kyp p = K a (i + t):=by
 obtain ⟨x,h1,h2,h3⟩:=K_extr h hp
 obtain ⟨t,rfl⟩:=Nat.exists_eq_add_of_le h1
 exact ⟨t,Nat.lt_of_add_lt_add_left h2,h3⟩
theorem merge_put {a xs:Array Keyed} {sa k d m f:Nat} {o:List Keyed} (he:sa + k + d + m + f≤a.size) (sgA:Seg a sa (sa + k + d)) (sgB:Seg a (sa + k + d) (sa + k + d + m + f))
  (hx:xs.toList = a.toList.take (sa + k) ++ o ++ a.toList.drop (sa + k + d + m)) (mg:MG (a.extract (sa + k) (sa + k + d)).toList (a.extract (sa + k + d) (sa + k + d + m)).toList o)
  (h1:∀ i j,i < k→j < m + f→K a (sa + i)≤K a (sa + k + d + j)) (h2:∀ i j,i < k + d→j < f→K a (sa + i)≤K a (sa + k + d + m + j)) :
  xs.Perm a∧(∀ j,j < sa∨sa + k + d + m + f≤j→K xs j = K a j)∧Seg xs sa (sa + k + d + m + f):=by
 have e4:=Nat.le_trans (Nat.le_add_right _ _) he
 have e3:=Nat.le_trans (Nat.le_add_right _ _) e4
 have e2:=Nat.le_trans (Nat.le_add_right _ _) e3
 have e1:=Nat.le_trans (Nat.le_add_right _ _) e2
 have hlen:(a.toList.take sa).length = sa:=List.length_take_of_le (by rw [Array.length_toList]; exact e1)
 have cut:=cut5 a (i:=sa) (j:=sa + k) (k:=sa + k + d) (l:=sa + k + d + m) (m:=sa + k + d + m + f) (Nat.le_add_right _ _) (Nat.le_add_right _ _) (Nat.le_add_right _ _) (Nat.le_add_right _ _) he
 have hM:sa + ((a.extract sa (sa + k)).toList ++ ((a.extract (sa + k) (sa + k + d)).toList ++ (a.extract (sa + k + d) (sa + k + d + m)).toList) ++ (a.extract (sa + k + d + m) (sa + k + d + m + f)).toList).length = sa + k + d + m + f:=by
  rw [List.length_append,List.length_append,List.length_append,len_ext e2,len_ext e3,len_ext e4,len_ext he]
  simp only [Nat.add_assoc]
 have hx':xs.toList = a.toList.take sa ++ ((a.extract sa (sa + k)).toList ++ o ++ (a.extract (sa + k + d + m) (sa + k + d + m + f)).toList) ++ a.toList.drop (sa + k + d + m + f):=by
  rw [hx,take_split a (Nat.le_add_right sa k),drop_split a (i:=sa + k + d + m) (k:=f)]
  simp only [List.append_assoc]
 have ino:∀ p∈o,(∃ t,t < d∧kyp p = K a (sa + k + t))∨(∃ t,t < m∧kyp p = K a (sa + k + d + t)):=fun p hp=>by
  rcases List.mem_append.mp (mg.perm.mem_iff.mp hp) with q | q
  ·exact .inl (mem_off e3 q)
  ·exact .inr (mem_off e4 q)
 have:=seg_put (a:=a) (xs:=xs) cut hx' ((List.Perm.append_left _ mg.perm).append_right _) ?_
 ·rw [hlen,hM] at this
  exact this
 ·refine List.pairwise_append.mpr ⟨List.pairwise_append.mpr ⟨srt_ext (fun i j p q r=>sgA i j p q (Nat.lt_of_lt_of_le r (Nat.le_add_right _ _))) e2,mg.srt,fun p hp q hq=>?_⟩,srt_ext (fun i j p q r=>sgB i j (Nat.le_trans (Nat.le_add_right _ _) p) q r) he,fun p hp q hq=>?_⟩
  ·obtain ⟨i,i1,i3⟩:=mem_off e2 hp
   rw [i3]
   rcases ino q hq with ⟨j,j1,j3⟩ | ⟨j,j1,j3⟩ <;> rw [j3]
   ·exact sgA _ _ (Nat.le_add_right _ _) (Nat.le_trans (Nat.add_le_add_left (Nat.le_of_lt i1) _) (Nat.le_add_right _ _)) (Nat.add_lt_add_left j1 _)
   ·exact h1 i j i1 (Nat.lt_of_lt_of_le j1 (Nat.le_add_right _ _))
  ·obtain ⟨j,j1,j3⟩:=mem_off he hq
   rw [j3]
   rcases List.mem_append.mp hp with hp | hp
   ·obtain ⟨i,i1,i3⟩:=mem_off e2 hp
    rw [i3]
    exact h2 i j (Nat.lt_of_lt_of_le i1 (Nat.le_add_right _ _)) j1
   ·rcases ino p hp with ⟨i,i1,i3⟩ | ⟨i,i1,i3⟩ <;> rw [i3]
    ·have:=h2 (k + i) j (Nat.add_lt_add_left i1 _) j1
     rwa [← Nat.add_assoc] at this
    ·exact sgB _ _ (Nat.le_add_right _ _) (Nat.le_trans (Nat.add_le_add_left (Nat.le_of_lt i1) _) (Nat.le_add_right _ _)) (Nat.add_lt_add_left j1 _)
section
variable {prog:Program} {w:World} {A:Around} {E:Value→Shared→Prop} {s:Shared} {a₀:Array Keyed}
theorem merge_at {st:SortSt} {i sa na pw sb nb pw':Nat} {Q:Bool→SortSt→Prop} (h0:IntKeys a₀) (hB:SB a₀ st) (e1:(pendingOf st)[i]? = some (sa,na,pw)) (e2:(pendingOf st)[i + 1]? = some (sb,nb,pw')) (hsb:sb = sa + na) (hna:1≤na) (hnb:1≤nb) (hsz:sb + nb≤a₀.size)
  (sgA:Seg (arrOf st) sa sb) (sgB:Seg (arrOf st) sb (sb + nb))
  (h:∀ st',SB a₀ st'→pendingOf st' = ((pendingOf st).setIfInBounds i (sa,na + nb,pw)).eraseIdxIfInBounds (i + 1)→(∀ k,k < sa∨sb + nb≤k→K (arrOf st') k = K (arrOf st) k)→Seg (arrOf st') sa (sb + nb)→Q true st'):wpS (model prog w) A E s (mergeAt' i) Q st:=by
 rw [mergeAt'_eq]
 refine wpS_bind (wpS_get ?_)
 rw [e1,e2]
 dsimp only
 subst hsb
 have hs0:=hB.size
 have hN:sa + na + nb≤(arrOf st).size:=by rw [hs0]; exact hsz
 have hN1:sa + na < (arrOf st).size:=Nat.lt_of_lt_of_le (Nat.lt_add_of_pos_right hnb) hN
 have hN2:sa + na≤(arrOf st).size:=Nat.le_of_lt hN1
 have ik:IntKeys (arrOf st):=fun p hp=>h0 p ((Array.perm_iff_toList_perm.mp hB.perm).mem_iff.mp hp)
 generalize hP:((pendingOf st).setIfInBounds i (sa,na + nb,pw)).eraseIdxIfInBounds (i + 1) = P at h ⊢
 have hB2:SB a₀ (setPending st P):=⟨hB.perm,hB.kind,hB.ok⟩
 refine wpS_bind (wpS_modify (f:=fun o9=>setPending st P) ?_)
 refine wpS_bind (elem_at hN1 ?_)
 have hkk:kindOf (setPending st P) = oneType':=hB.kind
 refine wpS_bind (gallop_at hkk (ik _ (by simp)) ik hN2 hna sgA fun k k1 k2 k3=>?_)
 rw [← K_get hN1] at k2 k3
 obtain ⟨d,rfl⟩:=Nat.exists_eq_add_of_le k1
 rw [← Nat.add_assoc] at *
 dsimp only
 rw [Nat.add_sub_cancel_left]
 have hA:∀ i j,i < k→j < nb→K (arrOf st) (sa + i)≤K (arrOf st) (sa + k + d + j):=fun i j a b=>Int.le_trans (Bf_false.mp (k2 i a)) (sgB _ _ (Nat.le_refl _) (Nat.le_add_right _ _) (Nat.add_lt_add_left b _))
 have k3':∀ t,t < d→K (arrOf st) (sa + k + d) < K (arrOf st) (sa + k + t):=fun t a=>by
  have:=Bf_false'.mp (k3 (k + t) (Nat.le_add_right _ _) (Nat.add_lt_add_left a _))
  rwa [← Nat.add_assoc] at this
 have two:(∀ i j,i < k + d→j < nb→K (arrOf st) (sa + i)≤K (arrOf st) (sa + k + d + j))→Seg (arrOf st) sa (sa + k + d + nb):=fun hh i j a b c=>by
  rcases Nat.lt_or_ge j (sa + k + d) with q | q
  ·exact sgA i j a b q
  ·obtain ⟨j',rfl⟩:=Nat.exists_eq_add_of_le q
   rcases Nat.lt_or_ge i (sa + k + d) with q2 | q2
   ·obtain ⟨i',rfl⟩:=Nat.exists_eq_add_of_le a
    rw [Nat.add_assoc] at q2
    exact hh i' j' (Nat.lt_of_add_lt_add_left q2) (Nat.lt_of_add_lt_add_left c)
   ·exact sgB i _ q2 b c
 by_cases hz:d = 0
 ·subst hz
  refine wps_pos (show ((0:Nat) == 0) = true from rfl) ?_
  exact wpS_pure (h _ hB2 rfl (fun o9 o9=>rfl) (two hA))
 refine wps_neg (by simpa using hz) ?_
 have hd1:1≤d:=Nat.one_le_iff_ne_zero.mpr hz
 obtain ⟨d',rfl⟩:=Nat.exists_eq_add_of_le' hd1
 have hlast:sa + k + (d' + 1) - 1 = sa + k + d':=rfl
 rw [hlast]
 have hL:sa + k + d' < (arrOf st).size:=Nat.lt_of_lt_of_le (Nat.lt_succ_self _) hN2
 refine wpS_bind (elem_at hL ?_)
 refine wpS_bind (gallop_at hkk (ik _ (by simp)) ik hN (Nat.sub_lt hnb Nat.one_pos) sgB fun m m1 m2 m3=>?_)
 rw [← K_get hL] at m2 m3
 obtain ⟨f,rfl⟩:=Nat.exists_eq_add_of_le m1
 rw [← Nat.add_assoc] at hN
 dsimp only
 have hBb:∀ i j,i < k + (d' + 1)→j < f→K (arrOf st) (sa + i)≤K (arrOf st) (sa + k + (d' + 1) + m + j):=fun i j a b=>by
  refine Int.le_trans (sgA _ _ (Nat.le_add_right _ _) ?_ (Nat.lt_succ_self (sa + k + d'))) ?_
  ·rw [Nat.add_assoc]; exact Nat.add_le_add_left (Nat.le_of_lt_succ a) _
  ·have:=Bf_true'.mp (m3 (m + j) (Nat.le_add_right _ _) (Nat.add_lt_add_left b _))
   rwa [← Nat.add_assoc] at this
 by_cases hm:m = 0
 ·subst hm
  refine wps_pos (show ((0:Nat) == 0) = true from rfl) ?_
  rw [Nat.zero_add] at *
  exact wpS_pure (h _ hB2 rfl (fun o9 o9=>rfl) (two hBb))
 refine wps_neg (by simpa using hm) ?_
 have hm1:0 < m:=Nat.pos_of_ne_zero hm
 have hNm:sa + k + (d' + 1) + m≤(arrOf st).size:=Nat.le_trans (Nat.le_add_right _ _) hN
 have T:Two ((arrOf st).extract (sa + k) (sa + k + (d' + 1))) ((arrOf st).extract (sa + k + (d' + 1)) (sa + k + (d' + 1) + m)):=⟨fun p hp=>ik p (mem_ext hp),fun p hp=>ik p (mem_ext hp),srt_ext (fun i j p q r=>sgA i j (Nat.le_trans (Nat.le_add_right _ _) p) q r) hN2,srt_ext (fun i j p q r=>sgB i j p q (Nat.lt_of_lt_of_le r (Nat.add_le_add_left (Nat.le_add_right _ _) _))) hNm⟩
 have sx:((arrOf st).extract (sa + k) (sa + k + (d' + 1))).size = d' + 1:=by rw [← Array.length_toList]; exact len_ext hN2
 have sy:((arrOf st).extract (sa + k + (d' + 1)) (sa + k + (d' + 1) + m)).size = m:=by rw [← Array.length_toList]; exact len_ext hNm
 have l1:∀ x,x < ((arrOf st).extract (sa + k) (sa + k + (d' + 1))).size→K ((arrOf st).extract (sa + k + (d' + 1)) (sa + k + (d' + 1) + m)) 0≤K ((arrOf st).extract (sa + k) (sa + k + (d' + 1))) x:=fun x hx=>by
  rw [sx] at hx
  rw [K_extract hNm (Nat.add_lt_add_left hm1 _),K_extract hN2 (Nat.add_lt_add_left hx _)]
  exact Int.le_of_lt (k3' x hx)
 have l2:∀ y,y < ((arrOf st).extract (sa + k + (d' + 1)) (sa + k + (d' + 1) + m)).size→K ((arrOf st).extract (sa + k + (d' + 1)) (sa + k + (d' + 1) + m)) y≤K ((arrOf st).extract (sa + k) (sa + k + (d' + 1))) (((arrOf st).extract (sa + k) (sa + k + (d' + 1))).size - 1):=fun y hy=>by
  rw [sy] at hy
  rw [sx,Nat.add_sub_cancel,K_extract hNm (Nat.add_lt_add_left hy _),K_extract hN2 (Nat.lt_succ_self (sa + k + d'))]
  exact Int.le_of_lt (Bf_true.mp (m2 y hy))
 have fin:∀ (res:Array Keyed) st',SG (setPending st P) st'→MG ((arrOf st).extract (sa + k) (sa + k + (d' + 1))).toList ((arrOf st).extract (sa + k + (d' + 1)) (sa + k + (d' + 1) + m)).toList res.toList→wpS (model prog w) A E s (do
   modify fun s=>setArr s (List.foldl (fun a x=>a.setIfInBounds (sa + k + x.snd) x.fst) (arrOf s) res.toList.zipIdx)
   let __do_lift ← get
   pure (failedOf __do_lift).isNone) Q st':=fun res st' sg mg=>by
  refine wpS_bind (wpS_modify (wpS_bind (wpS_get (wpS_pure ?_))))
  have ea:arrOf st' = arrOf st:=sg.a
  have ef:failedOf st' = none:=sg.f.trans hB.ok
  have hl:res.toList.length = d' + 1 + m:=by rw [mg.perm.length_eq,List.length_append,len_ext hN2,len_ext hNm]
  have hf:=fold_set res.toList (arrOf st) (sa + k) 0 (by rw [hl,Nat.add_zero,← Nat.add_assoc]; exact hNm)
  rw [hl,Nat.add_zero,← Nat.add_assoc (sa + k)] at hf
  obtain ⟨p1,p2,p3⟩:=merge_put hN sgA (Nat.add_assoc (sa + k + (d' + 1)) m f ▸ sgB) hf mg hA hBb
  rw [ea]
  generalize (List.foldl (fun (a:Array Keyed) (x:Keyed×Nat)=>a.setIfInBounds (sa + k + x.snd) x.fst) (arrOf st) res.toList.zipIdx) = xs at p1 p2 p3 ⊢
  rw [Nat.add_assoc (sa + k + (d' + 1))] at p2 p3
  have:=h (setArr st' xs) ⟨p1.trans hB.perm,sg.k.trans hB.kind,ef⟩ sg.p p2 p3
  rwa [show (failedOf (setArr st' xs)).isNone = true from by rw [show failedOf (setArr st' xs) = none from ef]; rfl]
 by_cases hle:d' + 1≤m
 ·refine wps_pos hle ?_
  exact wpS_bind (merge_lo T l2 hkk (by rw [sx]; exact hd1) (by rw [sy]; exact hm1) l1 fun res st' sg mg=>fin res st' sg mg)
 ·refine wps_neg hle ?_
  exact wpS_bind (merge_hi T l1 hkk (by rw [sx]; exact hd1) (by rw [sy]; exact hm1) l2 fun res st' sg mg=>fin res st' sg mg)
end
inductive PChn (xs:Array Keyed):Nat→List (Nat×Nat×Nat)→Nat→Prop
 | nil {a:Nat}:PChn xs a [] a
 | cons {a n pw b:Nat} {l:List (Nat×Nat×Nat)} (h1:1≤n) (sg:Seg xs a (a + n)) (h:PChn xs (a + n) l b):PChn xs a ((a,n,pw) :: l) b
theorem PChn.le {xs:Array Keyed} {a b:Nat} {l:List (Nat×Nat×Nat)} (h:PChn xs a l b):a + l.length≤b:=by
 induction h with
 | nil=>exact Nat.le_refl _
 | cons h1 _ _ ih=>simp only [List.length_cons]; dict_keeps
theorem Seg.same {xs ys:Array Keyed} {a b:Nat} (h:Seg xs a b) (e:∀ k,a≤k→k < b→K ys k = K xs k):Seg ys a b:=fun i j p q r=>by
 rw [e i p (by dict_keeps),e j (by dict_keeps) r]; exact h i j p q r
theorem PChn.same {xs ys:Array Keyed} {a b:Nat} {l:List (Nat×Nat×Nat)} (h:PChn xs a l b) (e:∀ k,a≤k→k < b→K ys k = K xs k):PChn ys a l b:=by
 induction h with
 | nil=>exact .nil
 | cons h1 sg h ih =>
  have:=h.le
  exact .cons h1 (sg.same fun k p q=>e k p (by dict_keeps)) (ih fun k p q=>e k (by dict_keeps) q)
theorem PChn.app {xs:Array Keyed} {l₂:List (Nat×Nat×Nat)} {c:Nat}:∀ {l₁:List (Nat×Nat×Nat)} {a:Nat},PChn xs a (l₁ ++ l₂) c→∃ b,PChn xs a l₁ b∧PChn xs b l₂ c:=by
 intro l₁
 induction l₁ with
 | nil=>intro a h; exact ⟨a,.nil,h⟩
 | cons x l ih =>
  intro a h
  cases h with
  | cons h1 sg h =>
   obtain ⟨b,p,q⟩:=ih h
   exact ⟨b,.cons h1 sg p,q⟩
theorem PChn.join {xs:Array Keyed} {a b c:Nat} {l₁ l₂:List (Nat×Nat×Nat)} (h:PChn xs a l₁ b) (h':PChn xs b l₂ c):PChn xs a (l₁ ++ l₂) c:=by
 induction h with
 | nil=>exact h'
 | cons h1 sg _ ih=>exact .cons h1 sg (ih h')
theorem PChn.pw {xs:Array Keyed} {b:Nat} {f:Nat×Nat×Nat→Nat×Nat×Nat} (hf:∀ x,(f x).1 = x.1∧(f x).2.1 = x.2.1):∀ {l:List (Nat×Nat×Nat)} {a i:Nat},PChn xs a l b→PChn xs a (l.modify i f) b:=by
 intro l
 induction l with
 | nil=>intro a i h; rw [List.modify_nil]; exact h
 | cons x l ih =>
  intro a i h
  cases h with
  | @cons _ n pw _ _ h1 sg h =>
   cases i with
   | zero =>
    rw [List.modify_zero_cons]
    have:=hf (a,n,pw)
    have e:f (a,n,pw) = (a,n,(f (a,n,pw)).2.2):=Prod.ext this.1 (Prod.ext this.2 rfl)
    rw [e]
    exact .cons h1 sg h
   | succ i=>rw [List.modify_succ_cons]; exact .cons h1 sg (ih h)
theorem split2 {α:Type} {l:List α} {i:Nat} (h:i + 1 < l.length):∃ l₁ x y l₂,l = l₁ ++ x :: y :: l₂∧l₁.length = i∧l[i]? = some x∧l[i + 1]? = some y∧∀ z,((l.set i z).eraseIdx (i + 1)) = l₁ ++ z :: l₂:=by
 have e:l = l.take i ++ l[i] :: l[i + 1] :: l.drop (i + 2):=by
  conv=>lhs; rw [← List.take_append_drop i l,List.drop_eq_getElem_cons (by dict_keeps),List.drop_eq_getElem_cons h]
 have hl:(l.take i).length = i:=by rw [List.length_take]; dict_keeps
 refine ⟨_,_,_,_,e,hl,List.getElem?_eq_getElem _,List.getElem?_eq_getElem _,fun z=>?_⟩
 generalize hA:l.take i = A at e hl
 generalize l.drop (i + 2) = B at e ⊢
 generalize l[i] = x at e
 generalize l[i + 1] = y at e
 subst e hl
 rw [List.set_append_right _ _ (Nat.le_refl _),Nat.sub_self,List.set_cons_zero,List.eraseIdx_append_of_length_le (by dict_keeps)]
 rw [show A.length + 1 - A.length = 1 by dict_keeps]
 rfl
section
variable {prog:Program} {w:World} {A:Around} {E:Value→Shared→Prop} {s:Shared} {a₀:Array Keyed}
theorem merge_chn {st:SortSt} {i lo:Nat} {Q:Bool→SortSt→Prop} (h0:IntKeys a₀) (hB:SB a₀ st) (hc:PChn (arrOf st) 0 (pendingOf st).toList lo) (hlo:lo≤a₀.size) (hi:i + 1 < (pendingOf st).size)
  (h:∀ st',SB a₀ st'→PChn (arrOf st') 0 (pendingOf st').toList lo→(pendingOf st').size + 1 = (pendingOf st).size→(∀ k,lo≤k→K (arrOf st') k = K (arrOf st) k)→Q true st'):wpS (model prog w) A E s (mergeAt' i) Q st:=by
 obtain ⟨l₁,⟨x1,x2,x3⟩,⟨y1,y2,y3⟩,l₂,e,hl,ex,ey,ez⟩:=split2 (l:=(pendingOf st).toList) (i:=i) (by simpa using hi)
 have hc2:=hc
 rw [e] at hc2
 obtain ⟨b,c1,c2⟩:=hc2.app
 cases c2 with
 | cons n1 sg1 c2 =>
  cases c2 with
  | cons n2 sg2 c3 =>
   have hle:=c3.le
   refine merge_at h0 hB (by rw [← Array.getElem?_toList]; exact ex) (by rw [← Array.getElem?_toList]; exact ey) rfl n1 n2 (by dict_keeps) sg1 sg2 fun st' hB' hp hk sg=>?_
   have hpl:(pendingOf st').toList = l₁ ++ (x1,x2 + y2,x3) :: l₂:=by
    rw [hp,← ez]
    simp
   refine h st' hB' ?_ ?_ fun k hk'=>hk k (by dict_keeps)
   ·rw [hpl]
    have hl1:=c1.le
    exact (c1.same fun k o9 q=>hk k (.inl q)).join (PChn.cons (by dict_keeps) (Nat.add_assoc x1 x2 y2 ▸ sg) (Nat.add_assoc x1 x2 y2 ▸ c3.same fun k p o9=>hk k (.inr p)))
   ·rw [← Array.length_toList,← Array.length_toList,hpl,e]; simp only [List.length_append,List.length_cons]; dict_keeps
theorem ite_lt {c:Prop} [Decidable c] {a n:Nat} (h:a + 1 < n):(if c then a - 1 else a) + 1 < n:=by
 by_cases q:c
 ·rw [if_pos q]; grows_one
 ·rw [if_neg q]; exact h
structure SRuns (a₀:Array Keyed) (lo:Nat) (st:SortSt):Prop where
 sb:SB a₀ st
 ch:PChn (arrOf st) 0 (pendingOf st).toList lo
structure SRunsN (a₀:Array Keyed) (lo n:Nat) (st:SortSt):Prop where
 sb:SB a₀ st
 ch:PChn (arrOf st) 0 (pendingOf st).toList lo
 sg:Seg (arrOf st) lo (lo + n)
 n1:1≤n
 nl:lo + n≤a₀.size
theorem SRunsN.push {st:SortSt} {lo n:Nat} (h:SRunsN a₀ lo n st):SRuns a₀ (lo + n) (setPending st ((pendingOf st).push (lo,n,0))) :=
 ⟨⟨h.sb.perm,h.sb.kind,h.sb.ok⟩,by
  show PChn (arrOf st) 0 ((pendingOf st).push (lo,n,0)).toList (lo + n)
  rw [Array.toList_push]
  exact h.ch.join (.cons h.n1 h.sg .nil)⟩
theorem SRunsN.pw {st:SortSt} {lo n i:Nat} {f:Nat×Nat×Nat→Nat×Nat×Nat} (hf:∀ x,(f x).1 = x.1∧(f x).2.1 = x.2.1) (h:SRunsN a₀ lo n st):SRunsN a₀ lo n (setPending st ((pendingOf st).modify i f)) :=
 ⟨⟨h.sb.perm,h.sb.kind,h.sb.ok⟩,by
  show PChn (arrOf st) 0 ((pendingOf st).modify i f).toList lo
  rw [Array.toList_modify]
  exact h.ch.pw hf,h.sg,h.n1,h.nl⟩
theorem sort_runs {st:SortSt} {Q:Unit→SortSt→Prop} (h0:IntKeys a₀) (hd:Dst a₀) (hB:SB a₀ st) (hp:pendingOf st = #[]) (h2:2≤a₀.size)
  (h:∀ st',(arrOf st').Perm a₀→failedOf st' = none→SortedTo (arrOf st') a₀.size→Q () st'):wpS (model prog w) A E s sortRuns' Q st:=by
 rw [sortRuns'_eq]
 refine wpS_bind (wpS_get ?_)
 dsimp only
 rw [hB.size]
 generalize minRun' a₀.size a₀.size 0 = mr
 refine wpS_bind (wpS_mono (wpS_forRange
  (I:=fun x c st'=>∃ lo,c = (none,lo)∧x≤lo∧lo≤a₀.size∧SRuns a₀ lo st')
  (Q:=fun c st'=>c = (none,a₀.size)∧SRuns a₀ a₀.size st') ?step ?fin ⟨0,rfl,Nat.le_refl _,Nat.zero_le _,hB,by rw [hp]; exact .nil⟩) ?post)
 case fin =>
  rintro c st' ⟨lo,e,h1,h2,h3⟩
  have:lo = a₀.size:=by dict_keeps
  subst this
  exact ⟨e,h3⟩
 case step =>
  rintro x c st1 o9 hx ⟨lo,e,h1,h2,hR⟩
  subst e
  dsimp only
  by_cases hge:lo ≥ a₀.size
  ·refine wps_pos hge ?_
   have:lo = a₀.size:=by dict_keeps
   subst this
   exact wpS_pure ⟨rfl,hR⟩
  refine wps_neg hge ?_
  refine wpS_bind (count_run h0 hd (by dict_keeps) (by dict_keeps) hR.sb fun m xs pm m1 m2 mk sg=>?_)
  dsimp only
  have R1:SRunsN a₀ lo m (setArr st1 xs):=⟨hR.sb.set pm,hR.ch.same fun k o9 q=>mk k q,sg,m1,by dict_keeps⟩
  generalize setArr st1 xs = st2 at R1 ⊢
  clear pm mk sg
  by_cases hlt:m < mr
  case' pos =>
   refine wps_pos hlt ?_
   refine wpS_bind (wpS_lift (wpAny_rule ⟨rfl,?_⟩))
   refine wpS_bind (bin_sort h0 (by dict_keeps) R1.n1 (by dict_keeps) R1.sb R1.sg fun ys py yk ys'=>?_)
   refine wps_neg Bool.false_ne_true ?_
   have R2:SRunsN a₀ lo (min (a₀.size - lo) mr) (setArr st2 ys):=⟨R1.sb.set py,R1.ch.same fun k o9 q=>yk k q,ys',by dict_keeps,Nat.add_le_of_le_sub' h2 (Nat.min_le_left _ _)⟩
   generalize min (a₀.size - lo) mr = n at R2 ⊢
   generalize setArr st2 ys = st3 at R2 ⊢
  case' neg =>
   refine wps_neg hlt ?_
   have R2:=R1
   generalize m = n at R2 ⊢
   generalize st2 = st3 at R2 ⊢
  all_goals
   refine wpS_bind (wpS_get ?_)
   cases hb:(pendingOf st3).back? with
   | none=>exact wpS_bind (wpS_modify (wpS_pure ⟨lo + n,rfl,by have:=R2.n1; dict_keeps,R2.nl,R2.push⟩))
   | some p =>
    obtain ⟨s1,n1,p3⟩:=p
    dsimp only
    generalize power' a₀.size (2 * s1 + n1) (2 * s1 + n1 + n1 + n) a₀.size = pw
    refine wpS_bind (wpS_mono (wpS_forRange (I:=fun o9 c st'=>c = (none,())∧SRunsN a₀ lo n st') (Q:=fun c st'=>c = (none,())∧SRunsN a₀ lo n st') ?stp (fun o9 o9 hh=>hh) ⟨rfl,R2⟩) ?pst)
    case stp =>
     rintro x c st4 o9 o9 ⟨e,R4⟩
     subst e
     refine wpS_bind (wpS_get ?_)
     by_cases h1:(pendingOf st4).size > 1
     ·rw [if_pos h1,Array.getElem?_eq_getElem (by dict_keeps)]
      generalize (pendingOf st4)[(pendingOf st4).size - 2] = t
      obtain ⟨t1,t2,t3⟩:=t
      dsimp only
      by_cases ho:t3≤pw
      ·refine wps_pos ho ?_
       exact wpS_pure ⟨rfl,R4⟩
      ·refine wps_neg ho ?_
       refine wpS_bind (merge_chn h0 R4.sb R4.ch h2 (by dict_keeps) fun st5 sb ch o9 ks=>?_)
       refine wps_neg Bool.false_ne_true ?_
       exact wpS_pure ⟨rfl,sb,ch,R4.sg.same fun k p o9=>ks k p,R4.n1,R4.nl⟩
     ·rw [if_neg h1]
      exact wpS_pure ⟨rfl,R4⟩
    case pst =>
     rintro c st4 ⟨e,R4⟩
     subst e
     dsimp only
     refine wpS_bind (wpS_modify ?_)
     have R5:=R4.pw (i:=(pendingOf st4).size - 1) (f:=fun x=>(x.1,x.2.1,pw)) fun o9=>⟨rfl,rfl⟩
     exact wpS_bind (wpS_modify (wpS_pure ⟨lo + n,rfl,by have:=R2.n1; dict_keeps,R2.nl,R5.push⟩))
 case post =>
  rintro c st1 ⟨e,R1⟩
  subst e
  dsimp only
  refine wpS_bind (wpS_mono (wpS_forRange (I:=fun x c st'=>c = (none,())∧SRuns a₀ a₀.size st'∧(pendingOf st').size + x≤a₀.size) (Q:=fun c st'=>c = (none,())∧SRuns a₀ a₀.size st'∧(pendingOf st').size≤1) ?stp ?fn ⟨rfl,R1,?i⟩) ?pst)
  case i =>
   have:=R1.ch.le
   rw [Array.length_toList] at this
   dict_keeps
  case fn =>
   rintro c st2 ⟨e,R2,l⟩
   exact ⟨e,R2,by dict_keeps⟩
  case stp =>
   rintro x c st2 o9 hx ⟨e,R2,l⟩
   subst e
   refine wpS_bind (wpS_get ?_)
   by_cases h1:(pendingOf st2).size≤1
   ·refine wps_pos h1 ?_
    exact wpS_pure ⟨rfl,R2,h1⟩
   ·refine wps_neg h1 ?_
    refine wpS_bind (merge_chn h0 R2.sb R2.ch (Nat.le_refl _) (ite_lt (by dict_keeps)) fun st3 sb ch sz ks=>?_)
    refine wps_neg Bool.false_ne_true ?_
    exact wpS_pure ⟨rfl,⟨sb,ch⟩,by dict_keeps⟩
  case pst =>
   rintro c st2 ⟨e,R2,l⟩
   subst e
   dsimp only
   refine wpS_pure (h st2 R2.sb.perm R2.sb.ok ?_)
   have hc:=R2.ch
   rw [← Array.length_toList] at l
   generalize (pendingOf st2).toList = L at hc l
   have:Seg (arrOf st2) 0 a₀.size:=by
    generalize a₀.size = N at hc h2 ⊢
    cases hc with
    | nil=>dict_keeps
    | cons g1 sg hc =>
     cases hc with
     | nil=>rw [Nat.zero_add] at sg ⊢; exact sg
     | cons _ _ _=>simp at l
   exact fun i j p q=>this i j (Nat.zero_le _) p q
end
theorem len_sub {l' l:List Int} (nd:l'.Nodup) (h:∀ x∈l',x∈l) (hl:l.length≤1000):l'.length≤1000:=Nat.le_trans (nodup_le nd h) hl
theorem dst_pairs {vs:List Value} {ns:List Int} (hI:IntsAre vs ns) (nd:ns.Nodup):Dst (pairsOf vs):=by
 have:((pairsOf vs).toList.map fun p=>numOf p.1) = ns:=by
  unfold pairsOf
  simp only [Array.toList_zip]
  clear nd
  induction hI with
  | nil=>rfl
  | cons n t h ih=>exact congrArg (n :: ·) ih
 unfold Dst
 rw [this]
 exact nd
section
variable {prog:Program} {w:World} {A:Around} {E:Value→Shared→Prop} {s:Shared}
theorem list_sort_dst {a:Addr} {vs:List Value} {ns:List Int} {n:Nat} {P:Fin→Shared→Prop} (ho:s.heap.get? a = some (seqObj "list" vs.toArray n))
  (hI:IntsAre vs ns) (hnd:ns.Nodup) (h1k:vs.length≤1000)
  (h:∀ (out:Array Value) (ns':List Int),IntsAre out.toList ns'→ns'.Perm ns→ns'.Pairwise (·≤·)→P (.done (.ret .none)) { s with heap:=sortedHeap s.heap a vs out }) :
  wpAny (model prog w) A (Builtin.«list.sort» ⟨[.ref a],[]⟩) P E s:=by
 rw [list_sort_plain]
 have ha:a < s.heap.objs.size:=Heap.lt_size ho
 refine wpAny_bind (listItems_at ho rfl ?_)
 refine wpAny_bind (listUpdate_at ho rfl ?_)
 obtain ⟨e1,ho1⟩:∃ e1,(s.heap.update a (Obj.mapSeq fun o9=>#[])).get? a = some (seqObj "list" #[] e1):=⟨_,get?_update_seq ho (fun o9=>#[])⟩
 refine wpAny_bind (seqEpoch_at ho1 rfl ?_)
 refine wpAny_bind (wpAny_newTuple ?_)
 refine wpAny_bind (wpAny_newList ?_)
 refine wpAny_holding ?_
 have ho6:(((s.heap.update a (Obj.mapSeq fun o9=>#[])).push (seqObj "tuple" vs.toArray 0)).push (seqObj "list" #[] 0)).get? a = some (seqObj "list" #[] e1):=by
  rw [Heap.get?_push_ne _ _ _ (by rw [size_push',Heap.size_update]; exact Nat.ne_of_lt (Nat.lt_succ_of_lt ha)),Heap.get?_push_ne _ _ _ (by rw [Heap.size_update]; exact Nat.ne_of_lt ha)]
  exact ho1
 show wpAny (model prog w) A _ P E { s with heap:=((s.heap.update a (Obj.mapSeq fun o9=>#[])).push (seqObj "tuple" vs.toArray 0)).push (seqObj "list" #[] 0) }
 dsimp only
 have hsz:vs.toArray.size = vs.length:=by simp
 have fin:∀ st':SortSt,(arrOf st').Perm (pairsOf vs)→SortedTo (arrOf st') (pairsOf vs).size →
   P (.done (.ret .none)) { s with heap:=sortedHeap s.heap a vs ((arrOf st').map (·.2)) }:=by
  intro st' hp hs
  obtain ⟨ns',h1,h2,h3⟩:=sorted_out hI hp hs
  exact h _ ns' h1 h2 h3
 by_cases h2:vs.toArray.size < 2
 ·rw [if_pos h2,if_pos h2]
  refine wpAny_bind (wpAny_pure ?_)
  rw [StateT.run_pure]
  refine wpAny_bind (wpAny_pure ?_)
  dsimp only
  refine wpAny_bind (seqEpoch_at ho6 rfl ?_)
  refine wpAny_bind (listUpdate_at ho6 rfl ?_ (hsz2:=by rw [Array.size_map]; show (pairsOf vs).size≤_; rw [pairsOf_size,sizeLine_eq]; dict_keeps))
  simp only [bne_self_eq_false,Bool.false_eq_true,if_false]
  refine wpAny_pure (fin (SortSt.mk' general' (vs.toArray.zip vs.toArray) #[] 7 none) (Array.Perm.refl _) ?_)
  intro i j hij hj
  have:i = j:=by rw [pairsOf_size] at hj; dict_keeps
  subst this; exact Int.le_refl _
 ·rw [if_neg h2,if_neg h2]
  obtain ⟨v₁,v₂,rest,rfl⟩:∃ v₁ v₂ rest,vs = v₁ :: v₂ :: rest:=by
   match vs,hsz,h2 with
   | [],_,h2=>simp at h2
   | [_],_,h2=>simp at h2
   | v₁ :: v₂ :: rest,_,_=>exact ⟨v₁,v₂,rest,rfl⟩
  rw [keyKind_ints hI]
  refine wpAny_bind (wpAny_pure ?_)
  refine wpAny_bind (wpAny_mono (sort_runs (a₀:=pairsOf (v₁ :: v₂ :: rest)) (st:=SortSt.mk' oneType' ((v₁ :: v₂ :: rest).toArray.zip (v₁ :: v₂ :: rest).toArray) #[] 7 none)
   (Q:=fun o9 st'=>(arrOf st').Perm (pairsOf (v₁ :: v₂ :: rest))∧failedOf st' = none∧SortedTo (arrOf st') (pairsOf (v₁ :: v₂ :: rest)).size)
   hI.intKeys (dst_pairs hI hnd) ⟨Array.Perm.refl _,rfl,rfl⟩ rfl (by rw [pairsOf_size]; simp) fun st' a1 a2 a3=>⟨a1,a2,a3⟩) ?_ fun o9 o9 e=>e)
  rintro ⟨⟨⟩,st'⟩ s' ⟨rfl,hp,hf,hs⟩
  dsimp only
  refine wpAny_bind (seqEpoch_at ho6 rfl ?_)
  refine wpAny_bind (listUpdate_at ho6 rfl ?_ (hsz2:=by refine Nat.le_trans (Nat.le_of_eq ((Array.size_map ..).trans (hp.size_eq.trans (pairsOf_size _)))) ?_; rw [sizeLine_eq]; dict_keeps))
  rw [hf]
  simp only [bne_self_eq_false,Bool.false_eq_true,if_false]
  exact wpAny_pure (fin st' hp hs)
end
theorem call_sorted_set' {prog:Program} {w:World} {A:Around} {E:Value→Shared→Prop} {s:Shared} {r:Addr} {o:Obj} {ns:List Int} {Q:Value→Shared→Prop} (hh:A.handled = none) (ho:s.heap.get? r = some o) (hS:ISet (ledOf w) o ns) (h1k:ns.length≤1000)
  (h:∀ h' dr tk a out e vs,(∀ b ob,s.heap.get? b = some ob→h'.get? b = some ob)→s.heap.get? a = none→h'.get? a = some (seqObj "list" out e)→IntsAre out.toList vs→vs.Perm ns→vs.Pairwise (·≤·)→Q (.ref a) { s with heap:=h',drawn:=dr,toks:=tk }) :
  wpAny (model prog w) A (call (.builtin "sorted") [.ref r]) Q E s:=by
 refine Calls.call_function_entry kind_sorted plain_sorted entry_sorted (args_sorted1 _) ?_
 unfold Builtin.«sorted»
 refine wpAny_bind (m:=checkCount "sorted" 1 1 _) (wpAny_pure ?_)
 refine wpAny_bind (collect_set hh ho hS fun h₁ dr tk l vs k i p=>?_)
 have nd:vs.Nodup:=p.nodup_iff.mpr (by obtain ⟨_,_,_,_,_,_,e,nd,_⟩:=hS; exact nd)
 have hl:l.length = ns.length:=by
  rw [← p.length_eq]
  have:∀ {l:List Value} {ns:List Int},IntsAre l ns→l.length = ns.length:=fun h=>by induction h <;> simp_all
  exact this i
 refine wpAny_bind (wpAny_newList ?_ (by rw [hl,sizeLine_eq]; dict_keeps))
 have hL:(h₁.push (seqObj "list" l.toArray 0)).get? h₁.objs.size = some (seqObj "list" l.toArray 0):=Heap.get?_push_size _ rfl
 refine wpAny_bind (wpAny_holding (wpAny_call_entry slot_list_sort ⟨_,hL,rfl⟩ entry_list_sort (list_sort_dst (s:={ s with heap:=h₁.push (seqObj "list" l.toArray 0),drawn:=dr,toks:=tk }) hL i nd (by rw [hl]; exact h1k) fun out ns' a1 a2 a3=>⟨_,rfl,?_⟩) (args_list_sort _)))
 obtain ⟨e,he⟩:=sortedHeap_at (vs:=l) (out:=out) hL
 refine wpAny_pure ⟨_,rfl,h _ dr tk _ out e ns' (fun b ob hb=>?_) ?_ he a1 (a2.trans p) a3⟩
 ·have hlt:=Heap.lt_size (k b ob hb)
  rw [sortedHeap_old (Nat.ne_of_lt hlt) (by rw [size_push']; exact Nat.lt_succ_of_lt hlt)]
  exact Heap.get?_push_of_some _ (k b ob hb)
 ·cases q:s.heap.get? h₁.objs.size with
  | none=>rfl
  | some ob=>exact absurd (Heap.lt_size (k _ ob q)) (Nat.lt_irrefl _)
inductive SortQ' {σ:Type} (Q:List PyData→σ→Prop) (d:D) (S:σ):Prop
 | mk (l:List Int) (e:d = .lst (l.map PyData.int)) (hl:l.length≤1000)
   (q:∀ l':List Int,l'.Pairwise (· < ·)→(∀ x,x∈l'↔x∈l)→Q (l'.map PyData.int) S)
theorem wf_sortedset' {n:Nat} {K:Kx} {R:Rsc} {sc:Scope} {ρ:Rho} {S:R.σ} {p1 p2 p3 p4:Pos} {e:Expr} {Q:List PyData→R.σ→Prop} (hf:K.gl "sorted" = some (.builtin "sorted")) (hg:K.gl "set" = some (.type "set"))
  (h:WR n K R sc ρ S e (SortQ' Q)) (hk:sc.names.lookup ("sorted":Str) = some .globalImplicit:=by rfl) (hk':sc.names.lookup ("set":Str) = some .globalImplicit:=by rfl) (he:isStarred e = false:=by rfl) (hpos:0 < n:=by first | exact Nat.succ_pos _ | omega) :
  WF n K R sc ρ S (.Call (.Name "sorted" p1) [.Call (.Name "set" p2) [e] [] p3] [] p4) Q:=fun A G env Φ s ok I=>by
 show wpAny _ _ (do callWith p4 (← eval (.Name "sorted" p1) env) [] (backTo p4 (starEach [.Call (.Name "set" p2) [e] [] p3] env)) []) _ _ _
 refine wpAny_bind (wpAny_Name (loads I (glob_var I.scp hf hk) ?_) (by rfl))
 refine callPlain (.b _) rfl rfl ?_
 show wpAny _ _ (spliced [(false,eval (.Call (.Name "set" p2) [e] [] p3) env)]) _ _ _
 refine spliced_cons ?_
 show wpAny _ _ (do callWith p3 (← eval (.Name "set" p2) env) [] (backTo p3 (starEach [e] env)) []) _ _ _
 refine wpAny_bind (wpAny_Name (loads I (glob_var I.scp hg hk') ?_) (by rfl))
 refine callPlain (.t _) (plain_any (by show (isStarred e || false) = false; rw [he]; rfl)) (star_cons he) ?_
 rw [star_cons he]
 refine spliced_cons (wpAny_mono (h A G env Φ s ok I) (fun v s₁ p=>?_) fun o9 o9 x=>x.elim)
 obtain ⟨Φ₁,S₁,d,y,rr,l,e1,hl,q⟩:=p
 subst e1
 obtain ⟨a,vs,rfl,hL,hr⟩:=rr.lst' y.inv.froz
 refine spliced_nil (call_set_ints (ok.hd hpos) hL (reps_ints hr) (by unfold scanBound; dict_keeps) fun h₁ tk₁ o₁ ns₁ k₁ g₁ i₁ m₁=>?_)
 have nd:ns₁.Nodup:=by obtain ⟨_,_,_,_,_,_,e,nd,_⟩:=i₁; exact nd
 refine spliced_nil (call_sorted_set' (s:={ s₁ with heap:=h₁,toks:=tk₁ }) (ok.hd hpos) g₁ i₁ (len_sub nd (fun x hx=>(m₁ x).mp hx) hl) fun h₂ dr tk₂ b out c vs₂ k₂ n₂ g₂ i₂ p₂ w₂=>?_)
 have hb:s₁.heap.get? b = none:=by
  cases z:s₁.heap.get? b with
  | none=>rfl
  | some ob=>exact absurd (k₁ _ _ z) (by rw [n₂]; exact fun z=>dNS z)
 have st:Step NoW Φ₁ s₁ Φ₁ { s₁ with heap:=h₂,toks:=tk₂,drawn:=dr }:=Step.of_keeps (tk:=tk₂) (dr:=dr) y.inv.froz fun a ob e=>k₂ a ob (k₁ a ob e)
 refine ⟨Φ₁,S₁,vs₂.map PyData.int,b,y.pure st,rfl,⟨none_of_fresh y.inv.froz hb,_,out,c,g₂,⟨rfl,rfl,rfl⟩,rfl,ints_reps i₂⟩,fp_fresh y.inv hb,heap_none_of_step y.step hb,q vs₂ ?_ fun x=>(p₂.mem_iff).trans (m₁ x)⟩
 have nd₂:vs₂.Nodup:=p₂.nodup_iff.mpr nd
 exact (List.Pairwise.and w₂ nd₂).imp fun {a b} hab=>by have:=hab.1; have:=hab.2; dict_keeps
section
variable {n:Nat} {K:Kx} {R:Rsc} {sc:Scope} {ρ:Rho} {S:R.σ}
theorem meth_val {A:Around} {G:Ent} {env:Env} {Φ:Fz} {s:Shared} {E:Value→Shared→Prop} {x m:Str} {id:String} {p ap cp:Pos} {es:List Expr} {ds:List PyData} {Q:Value→Shared→Prop} (I:Inv K R G sc env ρ S Φ s) (hx:ρ.lookup x = some (.val (.lst ds)))
  (slot:PySem.Slot "list" m id) (hty:typeOf (.builtin id) = pure (.type "method_descriptor")) (hd:(x == ("__debug__":Str)) = false) (hline:(ap.endLine == cp.line) = true)
  (hfew:∀ env,((backTo cp (starEach es env)).all (fun x=>!x.1) && (backToKw cp (keywordEach [] env)).all (fun x=>x.1.isSome) && decide (es.length + ([]:List Keyword).length + (if ([]:List Keyword).isEmpty then 0 else 1) < 30)) = true)
  (h:∀ a (o:Obj) vs k,Φ a = some o→(o.cls = .type "list"∧o.dict = none∧o.slots = #[])→o.data = .seq vs k→Reps Φ ds vs.toList→wpAny K.M A (callWith cp (.builtin id) [.ref a] (backTo cp (starEach es env)) []) Q E s) :
  wpAny K.M A (eval (.Call (.Attribute (.Name x p) m ap) es [] cp) env) Q E s:=by
 obtain ⟨u,a1,r⟩:=I.vals x _ hx
 obtain ⟨a,o,vs,k,rfl,ho,c,d,hr⟩:=r
 exact wpAny_Call_method rfl (hfew env) hline F.plainAttrs_list slot hty (wpAny_Name (loads I a1 ⟨⟨o,I.froz _ _ ho,c.1⟩,fun b e=>by cases e; exact ⟨o,I.froz _ _ ho,c.2.1⟩,h a o vs k ho c d hr⟩) hd)
theorem v_indexof {x:Str} {p ap cp:Pos} {e:Expr} {ds:List PyData} {y z:PyData} {j:Nat} (hx:ρ.lookup x = some (.val (.lst ds))) (hds:ShAll 50 ds) (h:VE n K R sc ρ S e (.py y)) (hy:Sh 50 y) (hz:ds[j]? = some z) (hit:PyData.eqv z y = true) (hno:∀ m u,m < j→ds[m]? = some u→PyData.eqv u y = false) (hl:ds.length≤100000)
  (he:isStarred e = false:=by rfl) (hline:(ap.endLine == cp.line) = true:=by rfl) (hd:(x == ("__debug__":Str)) = false:=by rfl) :
  VE n K R sc ρ S (.Call (.Attribute (.Name x p) "index" ap) [e] [] cp) (.int (j:Nat)) :=
 fun Q q A G env Φ s ok I=>by
  refine meth_val I hx F.slot_list_index F.type_list_index hd hline (fun env=>by rw [star_cons he]; rfl) fun a o vs m ho c hda hr=>arg1 he (wpAny_mono (h (fun d S'=>d = .py y∧S' = S) ⟨rfl,rfl⟩ A G env Φ s ok I) (fun v s₁ hp0=>?_) fun o9 o9 x=>x.elim)
  obtain ⟨Φ₁,S₁,d,y₁,r,e1,e2⟩:=hp0
  subst e1 e2
  have ho₁:=y₁.inv.froz _ _ (y₁.step.le _ _ ho)
  replace hr:=hr.mono y₁.step.le
  have hs:=size_eq hr
  obtain ⟨as,rs⟩:=Reps.reads y₁.inv.froz hr
  obtain ⟨bs,rv⟩:=RepP.reads y₁.inv.froz r
  have hmap:=SeqAt.readsAll_map ds _ _ hds.1 rs
  have hj:j < vs.size:=by rw [hs]; exact (List.getElem?_eq_some_iff.mp hz).1
  have hat:∀ i (hi:i < vs.size),ds[i]? = some (SeqAt.readOf s₁.heap vs[i]):=fun i hi=>by
   rw [← hmap,List.getElem?_map,Array.getElem?_toList,Array.getElem?_eq_getElem hi]; rfl
  refine call_meets F.slot_list_index ⟨o,ho₁,c.1⟩ F.entry_list_index (F.args_list_index_2 _ _) (SeqAt.list_indexAt a vs m none #[] v (fun u=>PyData.eqv (SeqAt.readOf s₁.heap u) y) j hj (by dict_keeps) ?_ ?_) ⟨exact_list ho₁ c hda,SeqAt.items_eqAt rs rv hds.1 hy.1 ?_,?_⟩
  ·rw [hat j hj] at hz; rw [Option.some.inj hz]; exact hit
  ·intro i hi hlt; exact hno i _ hlt (hat i hi)
  ·exact ok.toOkay.mn hy.2
  ·exact ⟨Φ₁,S₁,.int j,y₁.pure (.tok y₁.inv.froz),⟨_,rfl⟩,q⟩
theorem v_countof {x:Str} {p ap cp:Pos} {e:Expr} {ds:List PyData} {y:PyData} (hx:ρ.lookup x = some (.val (.lst ds))) (hds:ShAll 50 ds) (h:VE n K R sc ρ S e (.py y)) (hy:Sh 50 y)
  (he:isStarred e = false:=by rfl) (hline:(ap.endLine == cp.line) = true:=by rfl) (hd:(x == ("__debug__":Str)) = false:=by rfl) :
  VE n K R sc ρ S (.Call (.Attribute (.Name x p) "count" ap) [e] [] cp) (.int (ds.countP fun u=>PyData.eqv u y:Nat)) :=
 fun Q q A G env Φ s ok I=>by
  refine meth_val I hx F.slot_list_count F.type_list_count hd hline (fun env=>by rw [star_cons he]; rfl) fun a o vs m ho c hda hr=>arg1 he (wpAny_mono (h (fun d S'=>d = .py y∧S' = S) ⟨rfl,rfl⟩ A G env Φ s ok I) (fun v s₁ hp0=>?_) fun o9 o9 x=>x.elim)
  obtain ⟨Φ₁,S₁,d,y₁,r,e1,e2⟩:=hp0
  subst e1 e2
  have ho₁:=y₁.inv.froz _ _ (y₁.step.le _ _ ho)
  replace hr:=hr.mono y₁.step.le
  obtain ⟨as,rs⟩:=Reps.reads y₁.inv.froz hr
  obtain ⟨bs,rv⟩:=RepP.reads y₁.inv.froz r
  have hmap:=SeqAt.readsAll_map ds _ _ hds.1 rs
  have hc:vs.toList.countP (fun u=>PyData.eqv (SeqAt.readOf s₁.heap u) y) = ds.countP fun u=>PyData.eqv u y:=by
   conv=>rhs; rw [← hmap,List.countP_map]
   rfl
  refine call_meets F.slot_list_count ⟨o,ho₁,c.1⟩ F.entry_list_count (F.args_list_count_2 _ _) (SeqAt.list_countAt a vs m none #[] v (fun u=>PyData.eqv (SeqAt.readOf s₁.heap u) y)) ⟨exact_list ho₁ c hda,SeqAt.items_eqAt rs rv hds.1 hy.1 ?_,?_⟩
  ·exact ok.toOkay.mn hy.2
  ·rw [hc]; exact ⟨Φ₁,S₁,.int _,y₁.pure (.tok y₁.inv.froz),⟨_,rfl⟩,q⟩
theorem v_argsOwn {B newId:String} {bm:List Value} {C:Addr} {ds:List PyData} {x:Str} {np pos:Pos} (FB:ExcAttrBase B bm) (ho:ownIn K.kf C newId bm = true) (hx:ρ.lookup x = some (.val (.exc (.ref C) ds))) (hd:(x == ("__debug__":Str)) = false:=by rfl):VE n K R sc ρ S (.Attribute (.Name x np) "args" pos) (.tup ds) :=
 fun Q q A G env Φ s ok I=>by
  obtain ⟨nm,q',N,bs,hdct,sn,sub,ab,col,dd,k0,k1,k2,k3,k5,mN,hh,hqn⟩:=own_of ho
  obtain ⟨v,h1,a,o,vs,t,rfl,h2,h3,h4,h5,h6⟩:=I.vals x _ hx
  refine Attribute_name (wpAny_Name (loads I h1 ?_) hd)
  have hC:=hh I.kf
  obtain ⟨hp,g,d,tk,os⟩:=s
  refine args_attr_own FB hC.1 hC.2 hqn .base (I.froz _ _ h2) h3 h4 h5 ?_
  exact ⟨Φ,S,.tup ds,.start I (.tok I.froz),h6,q⟩
end
noncomputable def asgR (x:Str) (ρ:Rho) (Q:Fl→Rho→Cs→Prop):Ret→Cs→Prop
 | .val d,S'=>Q .next ((x,.val d) :: ρ) S'
 | .new ds,S'=>Q .next ((x,.own ds) :: ρ) S'
 | .exc _ _,_=>False
section
variable {n:Nat} {K:Kx} {sc:Scope} {ρ:Rho} {S:Cs}
theorem wx_assignM {z x name:Str} {zp np ap cp pos:Pos} {a C da fa:Addr} {sl:List D} {l:List (Str×D)} {Q:Fl→Rho→Cs→Prop} (hx:ρ.lookup x = some (.val (.ref a))) (hC:ClsF K C) (hM:MethF K C name fa) (fn:FnO K fa)
  (ha:S a = some (.inst C da sl)) (hd:S da = some (.attrs l)) (hl:l.lookup name = none)
  (h:WCall n K (CR K) S (.ref fa) [.ref a] (asgR z ρ Q)) (hz:isVar sc z = true:=by rfl) (hdb:(x == ("__debug__":Str)) = false:=by rfl) (hline:(ap.endLine == cp.line) = true:=by rfl)
  (hs:∀ env,swapsWith (.Call (.Attribute (.Name x np) name ap) [] [] cp) (some (.Name z zp)) pos.line env = pure false:=by intro o9; rfl) :
  WX n K (CR K) sc ρ S (.Assign [.Name z zp] (.Call (.Attribute (.Name x np) name ap) [] [] cp) pos) Q :=
 fun A G env Φ s ok hm I=>by
  refine wpAny_Assign_Name ?_ (hs env)
  rw [arm_eval_Call]
  have e1:attributeBase (.Name x np) name env (eval (.Name x np) env) = eval (.Name x np) env:=rfl
  rw [e1]
  obtain ⟨v,h1,h2⟩:=I.vals x _ hx
  cases h2
  refine wpAny_bind (wpAny_Name (loads I h1 (wpAny_bind (wpAny_standAt ?_))) hdb)
  unfold methodCall
  have few:methodCallForm (([]:List Expr).length + ([]:List Keyword).length) (backTo cp (starEach [] env)) (backToKw cp (keywordEach [] env)) = true:=rfl
  rw [few]
  refine wpAny_bind (wpAny_holding (cell_method I hC hM ha hd hl ?_))
  have e2:methodCallPos true (.Name x np) env ap cp = pure cp:=by unfold methodCallPos; simp [hline]
  rw [e2]
  refine wpAny_bind (wpAny_pure ?_)
  obtain ⟨o,fd,ho,hdata⟩:=fn
  refine callWith_function (o:=o) (fd:=fd) (evalArgs_any rfl (wpAny_mono (wes_nil (Q:=fun ds S₁=>ds = []∧S₁ = S) ⟨rfl,rfl⟩ cp A G env Φ s ok I) (fun vs s₁ ⟨Φ₁,S₁,ds,x₁,r,c1,c2⟩=>⟨⟨x₁.inv.fzn.keeps _ _ ho,hdata⟩,?_⟩) fun o9 o9 x=>x.elim))
  subst c1 c2
  refine wpAny_mono (h.wp A G.fs Φ₁ s₁ (.ref a :: vs) ok.toOkay ok.fr x₁.inv.frs x₁.inv.fzn x₁.inv.rsc ⟨.ref a,vs,rfl,rfl,r⟩) (fun v s' hp0=>?_) fun e s' hp0=>by obtain ⟨ea,Φ',S',cls,ds',tr,h1,st,fpl,rok,h5,h6⟩:=hp0; exact h6.elim
  obtain ⟨Φ',S',rr,st,fpl,rok,rep,q⟩:=hp0
  have y:After K (CR K) G sc env ρ S₁ Φ₁ s₁ S' Φ' s':=⟨x₁.inv.step st fpl rok,st,fpl⟩
  have y':=x₁.trans y
  cases rr with
  | val d=>exact stored y'.inv (isVar_or hz) (hm.mine z) fun s₂ X=>⟨Φ',_,S',.next,(After.stmt I y').trans (X.afterVal y'.inv rep),trivial,q⟩
  | new ds =>
   obtain ⟨b,e,ow,nf,hn⟩:=rep
   subst e
   exact stored y'.inv (isVar_or hz) (hm.mine z) fun s₂ X=>⟨Φ',_,S',.next,own_of_new I (After.stmt I y') ow nf (heap_none_of_step x₁.step hn) (own_stay I y') X,trivial,q⟩
  | exc _ _=>exact rep.elim
theorem wx_ifRaise {R:Rsc} {S:R.σ} {e:Expr} {rest:List Expr} {k:Nat} {np cp op pos:Pos} {body orelse:List Stmt} {Q:Fl→Rho→R.σ→Prop} (h:WEX n K R sc ρ S e (fun o9 o9=>False) fun cls ds S'=>Q (.exc cls ds) ρ S') :
  WX n K R sc ρ S (.If (.BoolOp .Or (.Compare e [.IsNot] [.Constant .none k np] cp :: rest) op) body orelse pos) Q :=
 fun A G env Φ s ok hm I=>wpAny_If (isTrue_or (wpAny_isTrue_Compare1 (wpAny_mono (h A G env Φ s ok I) (fun v s₁ hp0=>by obtain ⟨_,_,_,_,_,q⟩:=hp0; exact q.elim) fun o9 o9 x=>x.stmt I)))
end
noncomputable def KysAre (vs:List Value) (ks:List Ky):Prop:=vs.length = ks.length∧∀ (i:Nat) v,vs[i]? = some v→∃ k,ks[i]? = some k∧k.is v = true
noncomputable def KSetAt (prog:Program) (w:World) (h:Heap) (r:Addr) (ns:List Ky):Prop:=h.SetOf (kyKind prog w) r (fun k=>decide (k∈ns)) ns.length
section
variable {prog:Program} {w:World} {A:Around} {E:Value→Shared→Prop} {s:Shared}
theorem KSetAt.keep {h h':Heap} {r:Addr} {ns:List Ky} (x:KSetAt prog w h r ns) (k:∀ o,h.get? r = some o→h'.get? r = some o):KSetAt prog w h' r ns:=by
 obtain ⟨o,es,ep,t,ho,rest⟩:=x
 exact ⟨o,es,ep,t,k _ ho,rest⟩
theorem kset_loop {R:Result→Shared→Prop} {I l r:Addr} {items:Array Value} {ks:List Ky} (W:Walks prog w A.in1 I [I,l] [I] items.size (fun i v=>items[i]? = some v) (fun i h=>h.IsListIter I l i∧h.IsList l items)) (hr:r≠I∧r≠l) (hi:KysAre items.toList ks) (hsz:ks.length≤1000) :
  ∀ (k i:Nat) (s:Shared) (ns:List Ky),items.size - i = k→i≤items.size→s.heap.IsListIter I l i∧s.heap.IsList l items→KSetAt prog w s.heap r ns→ns.Nodup→ns.length≤i→(∀ x,x∈ns↔x∈ks.take i) →
   (∀ h' tk ns',(∀ a ob,a≠r→a≠I→s.heap.get? a = some ob→h'.get? a = some ob)→KSetAt prog w h' r ns'→ns'.Nodup→(∀ x,x∈ns'↔x∈ks)→R (.ok (.ret .none)) { s with heap:=h',toks:=tk }) →
   codeAny (model prog w) A (.builtin "set.update.loop" ⟨[.ref r,.ref I],[]⟩) R s:=by
 have hlen:ks.length = items.size:=by rw [← hi.1,Array.length_toList]
 intro k
 induction k with
 | zero =>
  intro i s ns hk hle st hS nd hl hm hR
  obtain rfl:i = items.size:=Nat.le_antisymm hle (Nat.le_of_sub_eq_zero hk)
  refine codeAny_builtin F.entry_set_update_loop ?_
  rw [Around.under_plainId F.plain_set_update_loop _]
  show wpAny _ A.in1 (pyNext (.ref I) >>= _) _ _ s
  refine wpAny_bind (W.done s _ _ st fun h' tk hk'=>wpAny_pure (hR h' tk ns (fun a ob o9 h2 e=>hk' a ob (by simpa using h2) e) (hS.keep fun o ho=>hk' r o (by simpa using hr.1) ho) nd (by rw [← hlen,List.take_length] at hm; exact hm)))
 | succ k ih =>
  intro i s ns hk hle st hS nd hl hm hR
  refine codeAny_builtin F.entry_set_update_loop ?_
  rw [Around.under_plainId F.plain_set_update_loop _]
  show wpAny _ A.in1 (pyNext (.ref I) >>= _) _ _ s
  refine wpAny_bind (W.item i s _ _ (Nat.lt_of_sub_eq_succ hk) st fun v h' tk hv st' hk'=>?_)
  obtain ⟨key,e1,e2⟩:=hi.2 i v (by rw [Array.getElem?_toList]; exact hv)
  have hS':KSetAt prog w h' r ns:=hS.keep fun o ho=>hk' r o (by simpa using hr.1) ho
  refine wpAny_bind (wpAny_holding ?_)
  unfold setAdd
  refine wpAny_holding ?_
  refine wpAny_bind ((kyKind prog w).pyHash (k:=key) e2 ?_)
  refine wpAny_setAddHashed_of (knd:=kyKind prog w) (s:={ s with heap:=h',toks:=tk + 1 }) e2 (Ky.scan e2) hS' (Nat.lt_of_le_of_lt (Nat.succ_le_succ hl) (Nat.lt_of_le_of_lt (Nat.lt_of_sub_eq_succ hk) (Nat.lt_of_le_of_lt (hlen ▸ hsz) (by decide)))) fun h2 hsb hS2=>?_
  have keep:∀ a ob,a≠r→h'.get? a = some ob→h2.get? a = some ob:=fun a ob ha e=>by rw [hsb.2 a ha]; exact e
  obtain ⟨ns2,S2,nd2,l2,m2⟩:∃ ns2,KSetAt prog w h2 r ns2∧ns2.Nodup∧ns2.length≤i + 1∧∀ x,x∈ns2↔x∈ns∨x = key:=by
   by_cases q:key∈ns
   ·refine ⟨ns,?_,nd,Nat.le_succ_of_le hl,fun x=>⟨.inl,fun z=>z.elim id fun z=>z ▸ q⟩⟩
    obtain ⟨o',es,ep,t,g1,g2,g3,g4,g5,g6,g7,g8⟩:=hS2
    refine ⟨o',es,ep,t,g1,g2,g3,g4,fun x=>?_,g6,g7,by rw [g8]; simp [q]⟩
    rw [← g5 x]
    by_cases z:x = key
    ·subst z; simp [q]
    ·simp [z]
   ·refine ⟨ns ++ [key],?_,List.nodup_append.mpr ⟨nd,by simp,fun a ha b hb=>by rw [List.mem_singleton.mp hb]; exact fun z=>q (z ▸ ha)⟩,by rw [List.length_append]; exact Nat.succ_le_succ hl,fun x=>by simp⟩
    obtain ⟨o',es,ep,t,g1,g2,g3,g4,g5,g6,g7,g8⟩:=hS2
    refine ⟨o',es,ep,t,g1,g2,g3,g4,fun x=>?_,g6,g7,by rw [g8]; simp [q]⟩
    rw [← g5 x]; simp
  refine wpAny_pure ⟨plainId_quiet F.plain_set_update_loop _,?_⟩
  refine ih (i + 1) { s with heap:=h2,toks:=tk + 1 } ns2 (congrArg Nat.pred hk) (Nat.lt_of_sub_eq_succ hk) (W.frame _ h' _ st' fun a ha ob e=>keep a ob (fun z=>by subst z; rcases List.mem_cons.mp ha with z | z; exact hr.1 z; exact hr.2 (List.mem_singleton.mp z)) e) S2 nd2 l2 (fun x=>?_) fun h3 tk3 ns3 p1 p2 p3 p4=>?_
  ·rw [m2,hm,List.take_add_one,e1,List.mem_append]; simp
  ·exact hR h3 tk3 ns3 (fun a ob h1 h2 e=>p1 a ob h1 h2 (keep a ob h1 (hk' a ob (by simpa using h2) e))) p2 p3 p4
theorem call_set_kys {l:Addr} {items:Array Value} {ks:List Ky} {Q:Value→Shared→Prop} (hh:A.handled = none) (hl:s.heap.IsList l items) (hi:KysAre items.toList ks) (hsz:ks.length≤1000)
  (h:∀ h' tk ns',(∀ a ob,s.heap.get? a = some ob→h'.get? a = some ob)→KSetAt prog w h' s.heap.objs.size ns'→ns'.Nodup→(∀ x,x∈ns'↔x∈ks)→Q (.ref s.heap.objs.size) { s with heap:=h',toks:=tk }) :
  wpAny (model prog w) A (call (.type "set") [.ref l]) Q E s :=
 call_set_gen (P:=fun h r=>∃ ns',KSetAt prog w h r ns'∧ns'.Nodup∧∀ x,x∈ns'↔x∈ks) hh hl (fun W hr st ho hR=>kset_loop W hr hi hsz items.size 0 _ [] rfl (Nat.zero_le _) st (PyProof.Rows.SetOf_congr ((PyProof.Rows.setObjOf_fresh (knd:=kyKind prog w) (ledOf w)).setOf ho (by decide)) (fun o9=>by simp) rfl) .nil (Nat.le_refl _) (fun x=>by simp) fun h' tk ns' k1 k2 k3 k4=>hR h' tk k1 ⟨ns',k2,k3,k4⟩)
  fun h' tk k p=>by obtain ⟨ns',a,b,c⟩:=p; exact h h' tk ns' k a b c
end
inductive LenSetQ {σ:Type} (Q:D→σ→Prop) (d:D) (S:σ):Prop
 | mk (l:List Ky) (e:d = .lst (l.map Ky.d)) (hl:l.length≤1000) (q:∀ l':List Ky,l'.Nodup→(∀ x,x∈l'↔x∈l)→Q (.int l'.length) S)
theorem kys_of {Φ:Fz}:∀ {l:List Ky} {vs:List Value},Reps Φ (l.map Ky.d) vs→KysAre vs l:=by
 intro l
 induction l with
 | nil=>intro vs h; obtain rfl:vs = []:=h; exact ⟨rfl,fun i v e=>by simp at e⟩
 | cons k l ih =>
  intro vs h
  obtain ⟨v,r,rfl,h1,h2⟩:=h
  obtain ⟨i1,i2⟩:=ih h2
  refine ⟨by simp [i1],fun i u e=>?_⟩
  cases i with
  | zero=>exact ⟨k,rfl,by obtain rfl:=Option.some.inj e; exact Ky.is_iff.mpr h1⟩
  | succ i=>exact i2 i u e
theorem we_lenset {n:Nat} {K:Kx} {R:Rsc} {sc:Scope} {ρ:Rho} {S:R.σ} {p1 p2 p3 p4:Pos} {e:Expr} {Q:D→R.σ→Prop} (hf:K.gl "len" = some (.builtin "len")) (hg:K.gl "set" = some (.type "set"))
  (h:WR n K R sc ρ S e (LenSetQ Q)) (hk:sc.names.lookup ("len":Str) = some .globalImplicit:=by rfl) (hk':sc.names.lookup ("set":Str) = some .globalImplicit:=by rfl) (he:isStarred e = false:=by rfl) (hpos:0 < n:=by first | exact Nat.succ_pos _ | omega) :
  WE n K R sc ρ S (.Call (.Name "len" p1) [.Call (.Name "set" p2) [e] [] p3] [] p4) Q:=fun A G env Φ s ok I=>by
 show wpAny _ _ (do callWith p4 (← eval (.Name "len" p1) env) [] (backTo p4 (starEach [.Call (.Name "set" p2) [e] [] p3] env)) []) _ _ _
 refine wpAny_bind (wpAny_Name (loads I (glob_var I.scp hf hk) ?_) (by rfl))
 refine callPlain (.b _) rfl rfl ?_
 show wpAny _ _ (spliced [(false,eval (.Call (.Name "set" p2) [e] [] p3) env)]) _ _ _
 refine spliced_cons ?_
 show wpAny _ _ (do callWith p3 (← eval (.Name "set" p2) env) [] (backTo p3 (starEach [e] env)) []) _ _ _
 refine wpAny_bind (wpAny_Name (loads I (glob_var I.scp hg hk') ?_) (by rfl))
 refine callPlain (.t _) (plain_any (by show (isStarred e || false) = false; rw [he]; rfl)) (star_cons he) ?_
 rw [star_cons he]
 refine spliced_cons (wpAny_mono (h A G env Φ s ok I) (fun v s₁ p=>?_) fun o9 o9 x=>x.elim)
 obtain ⟨Φ₁,S₁,d,y,rr,l,e1,hl,q⟩:=p
 subst e1
 obtain ⟨a,vs,rfl,hL,hr⟩:=rr.lst' y.inv.froz
 refine spliced_nil (call_set_kys (ok.hd hpos) hL (kys_of hr) hl fun h₁ tk₁ ns k₁ S₁' nd m₁=>?_)
 obtain ⟨o',es,ep,t,g1,g2,g3,g4,g5,g6,g7,g8⟩:=S₁'
 refine spliced_nil (call_len_set (s:={ s₁ with heap:=h₁,toks:=tk₁ }) g1 g2 g3 g7 (by
  have:scanBound≤2 ^ 62:=by decide
  omega) ?_)
 have st:Step NoW Φ₁ s₁ Φ₁ { s₁ with heap:=h₁,toks:=tk₁ + 1 + 1 }:=Step.of_keeps (tk:=tk₁ + 1 + 1) (dr:=s₁.drawn) y.inv.froz fun a ob e=>k₁ a ob e
 rw [g8]
 exact ⟨Φ₁,S₁,.int ns.length,y.pure st,⟨_,rfl⟩,q ns nd m₁⟩
noncomputable def Cs.ice (S:Cs) (ia sa:Addr) (c:Cell):Cs:=fun b=>if b = sa then none else if b = ia then some c else S b
theorem Cs.ice_other (S:Cs) {ia sa b:Addr} (c:Cell) (h1:b≠sa) (h2:b≠ia):S.ice ia sa c b = S b:=by unfold Cs.ice; rw [if_neg h1,if_neg h2]
theorem Cs.ice_self (S:Cs) {ia sa:Addr} (c:Cell) (h1:ia≠sa):S.ice ia sa c ia = some c:=by unfold Cs.ice; rw [if_neg h1,if_pos rfl]
theorem slots_ice {Φ Φ':Fz} {sa:Addr} {l:List PyData} {q:List D} (le:Le Φ Φ') (r:Rep Φ' (.lst l) (.ref sa)):∀ {p:List D} {vs:List (Option Value)},SlotsRep Φ (p ++ .ref sa :: q) vs→SlotsRep Φ' (p ++ .lst l :: q) vs:=by
 intro p
 induction p with
 | nil =>
  rintro vs ⟨v,rr,e,h1,h2⟩
  cases h1
  exact ⟨_,rr,e,r,h2.mono le⟩
 | cons d p ih =>
  rintro vs ⟨v,rr,e,h1,h2⟩
  exact ⟨v,rr,e,h1.mono le,ih h2⟩
section
variable {n:Nat} {K:Kx} {sc:Scope} {ρ:Rho} {S:Cs}
theorem ws_ice {ia sa C da:Addr} {p q:List D} {l:List PyData} {sts:List Stmt} {Q:Fl→Rho→Cs→Prop} (hi:S ia = some (.inst C da (p ++ .ref sa :: q))) (hl:S sa = some (.lst (l.map D.py))) (w:WS n K (CR K) sc ρ (S.ice ia sa (.inst C da (p ++ .lst l :: q))) sts Q):WS n K (CR K) sc ρ S sts Q :=
 fun A G env Φ s ok hm I=>by
  obtain ⟨o,ho,vs,m,c1,c2,c3⟩:=cell_at I hl
  have hΦ:=cell_no I hl
  have le:Le Φ (Φ.add sa o):=Fz.le_add hΦ
  have rep:Rep (Φ.add sa o) (.lst l) (.ref sa):=⟨sa,o,vs,m,rfl,Fz.add_self ..,c1,c2,c3.pys.mono le⟩
  have other:∀ b,b≠sa→(Φ.add sa o) b = Φ b:=fun b hb=>by simp [Fz.add,hb]
  have fz:∀ b o',(Φ.add sa o) b = some o'→s.heap.get? b = some o':=fun b o' e=>by
   by_cases z:b = sa
   ·subst z; rw [Fz.add_self] at e; obtain rfl:=Option.some.inj e; exact ho
   ·rw [other b z] at e; exact I.froz b o' e
  have st:Step ((CR K).fp S) Φ s (Φ.add sa o) s:=⟨rfl,rfl,fun b o' e=>⟨o',e,fun o9=>.inl rfl⟩,le,fun b e nb=>by
   by_cases z:b = sa
   ·subst z; exact .inr (by show S _≠none; rw [hl]; exact fun z=>dSN z)
   ·rw [other b z] at nb; exact absurd e nb,fz,fun o9 o' e f=>⟨o',e,f⟩⟩
  have hne:ia≠sa:=fun z=>by rw [z,hl] at hi; injection Option.some.inj hi
  have fpl:FpLe (CR K) S s (S.ice ia sa (.inst C da (p ++ .lst l :: q))):=fun b hb=>by
   refine .inl ?_
   show S b≠none
   by_cases z:b = sa
   ·subst z; rw [hl]; exact fun z=>dSN z
   ·by_cases z2:b = ia
    ·subst z2; rw [hi]; exact fun z=>dSN z
    ·have:=hb; rwa [show (CR K).fp (S.ice ia sa (.inst C da (p ++ .lst l :: q))) b = (S b≠none) from by show (_≠none) = _; rw [Cs.ice_other S _ z z2]] at this
  have y:After K (CR K) G sc env ρ S Φ s (S.ice ia sa (.inst C da (p ++ .lst l :: q))) (Φ.add sa o) s:=by
   refine ⟨I.step st fpl fun b cb hb=>?_,st,fpl⟩
   by_cases z:b = sa
   ·subst z; unfold Cs.ice at hb; rw [if_pos rfl] at hb; exact dNS hb
   ·by_cases z2:b = ia
    ·subst z2
     rw [Cs.ice_self S _ hne] at hb
     obtain rfl:=Option.some.inj hb
     obtain ⟨h1,⟨o',h2,sl,h3,h4⟩,h5⟩:=I.rsc _ _ hi
     exact ⟨by rw [other _ z]; exact h1,⟨o',h2,sl,h3,slots_ice le rep h4⟩,(fun z=>by cases z)⟩
    ·rw [Cs.ice_other S _ z z2] at hb
     obtain ⟨h1,⟨o',h2,h3⟩,h4⟩:=I.rsc b cb hb
     exact ⟨by rw [other _ z]; exact h1,⟨o',h2,h3.mono le⟩,h4⟩
  exact wpAny_mono (w A G env _ s ok hm y.inv) (fun f s₂ hp0=>by obtain ⟨Φ₂,ρ₂,S₂,fl,z,r,q⟩:=hp0; exact ⟨Φ₂,ρ₂,S₂,fl,(After.stmt I y).trans z,r,q⟩) fun o9 o9 z=>z.trans (After.stmt I y)
structure Iced (S:Cs) (l:List Nd) (S':Cs):Prop where
 node:∀ x∈l,S' x.ia = some (.inst 40 x.da [.py x.key.d,.int x.np,.lst (x.succ.map Ky.d)])∧S' x.da = some (.attrs [])
 rest:∀ b c,S b = some c→(∀ y∈l,b≠y.ia∧b≠y.sa)→S' b = some c
theorem ws_iced {sts:List Stmt} {Q:Fl→Rho→Cs→Prop}:∀ (l:List Nd) {S:Cs},(∀ x∈l,NdOk S x)→(l.map (·.ia)).Nodup→(l.map (·.sa)).Nodup→(∀ S',Iced S l S'→WS n K (CR K) sc ρ S' sts Q)→WS n K (CR K) sc ρ S sts Q:=by
 intro l
 induction l with
 | nil=>intro S o9 o9 o9 w; exact w S ⟨fun x hx=>(by cases hx),fun b c h o9=>h⟩
 | cons x l ih =>
  intro S hn h1 h2 w
  rw [List.map_cons,List.nodup_cons] at h1 h2
  have nx:=hn x (.head _)
  refine ws_ice (p:=[.py x.key.d,.int x.np]) (q:=[]) (l:=x.succ.map Ky.d) nx.info (by rw [nx.succ]; unfold kyL; rw [List.map_map]; rfl) ?_
  have nia:∀ y∈l,y.ia≠x.ia:=fun y hy e=>h1.1 (List.mem_map.mpr ⟨y,hy,e⟩)
  have nsa:∀ y∈l,y.sa≠x.sa:=fun y hy e=>h2.1 (List.mem_map.mpr ⟨y,hy,e⟩)
  have kind:∀ {b c b' c'},S b = some c→S b' = some c'→c≠c'→b≠b':=fun e e' hc z=>hc (Option.some.inj (by rw [← e,← e',z]))
  have hxs:x.ia≠x.sa:=kind nx.info nx.succ (fun z=>by cases z)
  refine ih (fun y hy=>?_) h1.2 h2.2 fun S' ic=>w S' ⟨fun y hy=>?_,fun b c hb hy=>?_⟩
  ·have ny:=hn y (.tail _ hy)
   refine ⟨?_,?_,?_⟩
   ·rw [Cs.ice_other _ _ (kind ny.info nx.succ (fun z=>by cases z)) (nia y hy)]; exact ny.info
   ·rw [Cs.ice_other _ _ (kind ny.dict nx.succ (fun z=>by cases z)) (kind ny.dict nx.info (fun z=>by cases z))]; exact ny.dict
   ·rw [Cs.ice_other _ _ (nsa y hy) (kind ny.succ nx.info (fun z=>by cases z))]; exact ny.succ
  ·rcases List.mem_cons.mp hy with rfl | hy
   ·refine ⟨ic.rest _ _ (Cs.ice_self _ _ hxs) fun z hz=>⟨(nia z hz).symm,kind nx.info (hn z (.tail _ hz)).succ (fun z=>by cases z)⟩,ic.rest _ _ ?_ fun z hz=>⟨kind nx.dict (hn z (.tail _ hz)).info (fun z=>by cases z),kind nx.dict (hn z (.tail _ hz)).succ (fun z=>by cases z)⟩⟩
    rw [Cs.ice_other _ _ (kind nx.dict nx.succ (fun z=>by cases z)) (kind nx.dict nx.info (fun z=>by cases z))]; exact nx.dict
   ·exact ic.node y hy
  ·refine ic.rest b c ?_ fun z hz=>hy z (.tail _ hz)
   have:=hy x (.head _)
   rw [Cs.ice_other _ _ this.2 this.1]; exact hb
end
noncomputable def rowD (x:Nd):PyData:=.list [x.key.d,.int x.np,.list (x.succ.map Ky.d)]
noncomputable def body5:List Stmt:=match (bodyAt 156)[8]? with
 | some (Stmt.For _ _ [Stmt.If _ b _ _] _ _)=>b
 | _=>[]
section
variable {K:Kx} (H:Here K)
include H
theorem s_table {m:Nat} {ρ:Rho} {S:Cs} {T:SS} {Q:Fl→Rho→Cs→Prop} (h:Sorter S T) (hl:T.nodes.length≤900) (hx:ρ.lookup ("sorter":Str) = some (.val (.ref T.a)))
  (k:∀ S',WS (m + 2) K (CR K) (scAt 156) ((("table":Str),.own (T.nodes.map rowD)) :: ρ) S' (body5.drop 11) Q):WS (m + 2) K (CR K) (scAt 156) ρ S (body5.drop 10) Q:=by
 have kind:∀ {b c b' c'},S b = some c→S b' = some c'→c≠c'→b≠b':=fun e e' hc z=>hc (Option.some.inj (by rw [← e,← e',z]))
 refine ws_iced T.nodes h.nodes h.dia h.dsa fun S₁ ic=>?_
 have g1:S₁ T.a = some (.inst 137 T.da []):=ic.rest _ _ h.inst fun y hy=>⟨kind h.inst (h.nodes y hy).info (fun z=>by cases z),kind h.inst (h.nodes y hy).succ (fun z=>by cases z)⟩
 have g2:S₁ T.da = some (.attrs T.attrs):=ic.rest _ _ h.attrs fun y hy=>⟨kind h.attrs (h.nodes y hy).info (fun z=>by cases z),kind h.attrs (h.nodes y hy).succ (fun z=>by cases z)⟩
 have g3:S₁ T.nd = some (.map (T.nodes.map fun x=>(x.key,.ref x.ia))):=ic.rest _ _ h.map fun y hy=>⟨kind h.map (h.nodes y hy).info (fun z=>by cases z),kind h.map (h.nodes y hy).succ (fun z=>by cases z)⟩
 refine ws_pinmap g3 (fun x hx=>by obtain ⟨y,_,rfl⟩:=List.mem_map.mp hx; rfl) fun o nsys ho=>?_
 generalize hS₀:S₁.put T.nd (.raw o) = S₀
 have S₀nd:S₀ T.nd = some (.raw o):=hS₀ ▸ Cs.put_self ..
 have S₀b:∀ {b c},S₁ b = some c→(∀ l,c≠.map l)→S₀ b = some c:=fun {b c} e hc=>by
  have:b≠T.nd:=fun q=>by rw [q,g3] at e; exact hc _ (Option.some.inj e).symm
  rw [← hS₀,Cs.put_ne _ _ this]; exact e
 have g0:GetA K S₀ T.a "_node2info" (.ref T.nd):=.dict (cls137 H) (S₀b g1 (by simp)) (S₀b g2 (by simp)) rfl (attr_at H (by decide)).1 (dict137 H) rfl
 refine ws_cons (wx_assignCE (hsw:=by intro env h1 h2; clear h2; cases env; cases h1; kernel_rfl) (fz:=.pin T.nd) [] T.nodes (fun x=>.ref x.ia) (fun x=>[rowD x]) (fun x=>[(("info":Str),Slot.val (.ref x.ia))]) (WI.e (wi_values (a:=T.nd) (l:=T.nodes.map fun x=>(x.key,.ref x.ia)) (we_attr (a:=T.a) hx g0 ⟨rfl,⟨nsys,o,S₀nd,ho⟩,rfl,by rw [List.map_map]; rfl⟩))) trivial ?_ ?_ ?_ ?_ ?_)
 ·intro x hx y hy e
  simp only [D.ref.injEq] at e
  rw [ia_inj h.dia hx hy e]
 ·intro x hx
  exact tgt_name (by kernel_rfl) (by kernel_rfl) rfl
 ·intro x hx
  obtain ⟨nx,nd⟩:=ic.node x hx
  have gnp:GetA K S₀ x.ia "npredecessors" (.int x.np):=.slot (cls40 H) (slotNp H) (S₀b nx (by simp)) (S₀b nd (by simp)) rfl rfl
  have gn:GetA K S₀ x.ia "node" (.py x.key.d):=.slot (cls40 H) (slotNode H) (S₀b nx (by simp)) (S₀b nd (by simp)) rfl rfl
  have gs:GetA K S₀ x.ia "successors" (.lst (x.succ.map Ky.d)):=.slot (cls40 H) (slotSucc H) (S₀b nx (by simp)) (S₀b nd (by simp)) rfl rfl
  exact (f_list (l:=[x.key.d,.int x.np,.list (x.succ.map Ky.d)]) (es_cons (fun Q q=>we_attr (a:=x.ia) rfl gn q) (es_cons (fun Q q=>we_attr (a:=x.ia) rfl gnp q) (es_cons (fun Q q=>we_attr (a:=x.ia) rfl gs q) es_nil))) (by rw [sizeLine_eq]; show 3≤_; decide)).e _ ⟨rfl,_,rfl,rfl⟩
 ·rw [flat_one,List.length_map,sizeLine_eq]; grows_one
 ·rw [flat_one]; exact k _
end
abbrev eI (v:Nat):PyData:=.int (v:Int)
noncomputable def iI (l:List Nat):List PyData:=l.map eI
theorem iI_len (l:List Nat):(iI l).length = l.length:=List.length_map ..
theorem sh_iI {l:List Nat} {m:Nat}:ShAll m (iI l):=.of fun d hd=>by obtain ⟨v,_,rfl⟩:=List.mem_map.mp hd; exact .int
theorem eqv_nat (u v:Nat):PyData.eqv (.int (u:Int)) (.int (v:Int)) = decide (u = v):=by
 rw [eqv_int,decide_eq_decide]; dict_keeps
theorem any_iI (l:List Nat) (v:Nat):((iI l).any fun y=>PyData.eqv y (.int (v:Int))) = decide (v∈l):=by
 induction l with
 | nil=>rfl
 | cons i l ih =>
  show (PyData.eqv (.int (i:Int)) (.int (v:Int)) || (iI l).any _) = _
  rw [ih,eqv_nat]
  by_cases q:v = i
  ·simp [q]
  ·have:¬ i = v:=fun z=>q z.symm
   simp [q,this]
noncomputable def encK (s:Nat×Nat):PyData:=.tuple [(nm s.1).d,(nm s.2).d]
theorem eqv_encK (s t:Nat×Nat):PyData.eqv (encK s) (encK t) = decide (s = t):=by
 show (PyData.eqv (nm s.1).d (nm t.1).d && (PyData.eqv (nm s.2).d (nm t.2).d && true)) = _
 rw [eqv_ky,eqv_ky,Bool.and_true,Bool.eq_iff_iff,Bool.and_eq_true,decide_eq_true_iff,decide_eq_true_iff,decide_eq_true_iff]
 exact ⟨fun ⟨a,b⟩=>Prod.ext (nm_inj a) (nm_inj b),fun e=>by rw [e]; exact ⟨rfl,rfl⟩⟩
theorem any_encK (l:List (Nat×Nat)) (s:Nat×Nat):((l.map encK).any fun y=>PyData.eqv y (encK s)) = decide (s∈l):=by
 induction l with
 | nil=>rfl
 | cons t l ih =>
  show (PyData.eqv (encK t) (encK s) || (l.map encK).any _) = _
  rw [ih,eqv_encK]
  by_cases q:s = t
  ·simp [q]
  ·have:¬ t = s:=fun z=>q z.symm
   simp [q,this]
theorem sh_encK {s:Nat×Nat} (h1:s.1 < 5) (h2:s.2 < 5) {m:Nat}:Sh (m + 1) (encK s):=.tuple (.cons (nm_sh h1) (.cons (nm_sh h2) .nil))
theorem sh_encKs {l:List (Nat×Nat)} (h:∀ s∈l,s.1 < 5∧s.2 < 5) {m:Nat}:ShAll (m + 1) (l.map encK):=.of fun d hd=>by obtain ⟨s,hs,rfl⟩:=List.mem_map.mp hd; exact sh_encK (h s hs).1 (h s hs).2
theorem encK_inj (s t:Nat×Nat) (e:D.py (encK s) = .py (encK t)):s = t:=by
 have:=eqv_encK s t
 rw [D.py.inj e,eqv_encK] at this
 simpa using this.symm
theorem eqvs_refl {l:List PyData} (h:∀ d∈l,PyData.eqv d d = true):PyData.eqvAll l l = true:=by
 induction l with
 | nil=>rfl
 | cons d l ih =>
  show (PyData.eqv d d && PyData.eqvAll l l) = true
  rw [h d (.head _),ih fun x hx=>h x (.tail _ hx)]; rfl
theorem eqv_lrefl {l:List PyData} (h:∀ d∈l,PyData.eqv d d = true):PyData.eqv (.list l) (.list l) = true:=eqvs_refl h
theorem nm_refl {v:Nat}:PyData.eqv (nm v).d (nm v).d = true:=by rw [eqv_ky]; simp
theorem nD_refl {l:List Nat}:∀ d∈nD l,PyData.eqv d d = true:=fun d hd=>by obtain ⟨v,_,rfl⟩:=List.mem_map.mp hd; exact nm_refl
theorem int_refl {i:Int}:PyData.eqv (.int i) (.int i) = true:=by rw [eqv_int]; simp
noncomputable def leftS (kinds:List (Nat×Nat)) (s:Nat):List (Nat×Nat):=((List.range kinds.length).filter fun k=>decide (s / 2 ^ k % 2 = 0)).map fun k=>kinds.getD k (0,0)
theorem mem_leftS {kinds:List (Nat×Nat)} {s:Nat} {x:Nat×Nat}:x∈leftS kinds s↔∃ k,∃ h:k < kinds.length,kinds[k] = x∧s / 2 ^ k % 2 = 0:=by
 unfold leftS
 simp only [List.mem_map,List.mem_filter,List.mem_range,decide_eq_true_iff]
 constructor
 ·rintro ⟨k,⟨h1,h2⟩,e⟩
  exact ⟨k,h1,by rw [← e,List.getD_eq_getElem?_getD,List.getElem?_eq_getElem h1]; rfl,h2⟩
 ·rintro ⟨k,h1,e,h2⟩
  exact ⟨k,⟨h1,h2⟩,by rw [← e,List.getD_eq_getElem?_getD,List.getElem?_eq_getElem h1]; rfl⟩
theorem mem_of_left {kinds:List (Nat×Nat)} {s:Nat} {x:Nat×Nat} (h:x∈leftS kinds s):x∈kinds:=by
 obtain ⟨k,h1,e,_⟩:=mem_leftS.mp h
 rw [← e]; exact List.getElem_mem h1
noncomputable def keptS (kinds steps:List (Nat×Nat)) (s:Nat):List (Nat×Nat):=steps.filter fun x=>decide (x∈leftS kinds s)
noncomputable def rhoK (n:Nat) (kinds steps:List (Nat×Nat)) (W F:List Nat):Rho:=[(("waiting":Str),.own (iI W)),(("free":Str),.own (iI F)),(("names":Str),.val (.lst (nD (List.range n)))),(("kinds":Str),.val (.lst (kinds.map encK))),(("steps":Str),.val (.lst (steps.map encK)))]
noncomputable def rhoL (n:Nat) (kinds steps:List (Nat×Nat)) (s:Nat) (W F:List Nat):Rho:=(("kept":Str),.val (.lst ((keptS kinds steps s).map encK))) :: (("left":Str),.val (.lst ((leftS kinds s).map encK))) :: (("struck":Str),.val (.int (s:Int))) :: rhoK n kinds steps W F
structure Kinds (n:Nat) (kinds steps:List (Nat×Nat)):Prop where
 n2:2≤n
 n5:n≤5
 rng:∀ s∈kinds,s.1 < n∧s.2 < n
 nd:kinds.Nodup
 few:kinds.length≤8
 sub:∀ s∈steps,s∈kinds
 sup:∀ s∈kinds,s∈steps
 len:steps.length≤70
section
variable {n:Nat} {K:Kx} {R:Rsc} {sc:Scope} {ρ:Rho} {S:R.σ}
theorem bin_pow2 {k:Nat} (hk:k≤100):Bin n K .Pow (.int 2) (.int (k:Int)) (.int ((2 ^ k:Nat):Int)):=by
 have:=bin_pow (n:=n) (K:=K) (a:=2) (b:=(k:Int)) (by dict_keeps) (by
  have:Builtin.Int.intBits 2 = 2:=by decide
  rw [this]; dict_keeps)
 rw [Int.toNat_natCast] at this
 have e:((2:Int) ^ k) = ((2 ^ k:Nat):Int):=by rw [Int.natCast_pow]; rfl
 rwa [e] at this
theorem bin_divN {a b:Nat} (hb:0 < b) (h:b≤1000000):Bin n K .FloorDiv (.int (a:Int)) (.int (b:Int)) (.int ((a / b:Nat):Int)):=by
 have:=bin_div (n:=n) (K:=K) (a:=(a:Int)) (b:=(b:Int)) (by dict_keeps) (by dict_keeps)
 rwa [← Int.natCast_ediv] at this
theorem bin_modN {a b:Nat} (hb:0 < b):Bin n K .Mod (.int (a:Int)) (.int (b:Int)) (.int ((a % b:Nat):Int)):=by
 have:=bin_mod (n:=n) (K:=K) (a:=(a:Int)) (b:=(b:Int)) (by dict_keeps)
 rwa [← Int.natCast_emod] at this
theorem bin_addN {a b:Nat}:Bin n K .Add (.int (a:Int)) (.int (b:Int)) (.int ((a + b:Nat):Int)):=by
 have:=bin_add (n:=n) (K:=K) (a:=(a:Int)) (b:=(b:Int))
 rwa [← Int.natCast_add] at this
end
section
variable {K:Kx} (H:Here K)
include H
theorem v_lenD' {n b:Nat} {R:Rsc} {sc:Scope} {ρ:Rho} {S:R.σ} {e:Expr} {np pos:Pos} {ds:List PyData} (h:VR n K R sc ρ S e (.lst ds)) (hl:ds.length = b) (hb:b≤1000) (hn:sc.names.lookup ("len":Str) = some .globalImplicit:=by rfl) (hs:isStarred e = false:=by rfl):VE n K R sc ρ S (.Call (.Name "len" np) [e] [] pos) (.int (b:Int)):=by
 rw [← hl]
 exact v_call (H.gl _ _ rfl) (rs_cons h rs_nil fun env=>star_cons hs) (cv_len (by dict_keeps)) (.b _) (hk:=hn) (hs:=by rw [List.any_cons,hs]; rfl)
theorem turn_kept {m n s:Nat} {kinds steps:List (Nat×Nat)} {W F:List Nat} {S:Cs} {Q:Fl→Rho→Cs→Prop} (hk:Kinds n kinds steps)
  (k:WS (m + 5) K (CR K) (scAt 156) (rhoL n kinds steps s W F) S (body5.drop 2) Q) :
  WS (m + 5) K (CR K) (scAt 156) ((("struck":Str),.val (.int (s:Int))) :: rhoK n kinds steps W F) S body5 Q:=by
 have hn:=hk.n5
 have hkl:=hk.few
 have hkm:(kinds.map encK).length = kinds.length:=List.length_map ..
 refine s_assignC (hs:=by intro env h; cases env; cases h; kernel_rfl) (ds:=(leftS kinds s).map encK) (by
  unfold leftS
  rw [List.map_map]
  exact f_filter (l:=List.range kinds.length) (enc:=fun k:Nat=>.int (k:Int)) (f:=fun k=>encK (kinds.getD k (0,0))) (ρc:=[(("kinds":Str),.val (.lst (kinds.map encK))),(("struck":Str),.val (.int (s:Int)))]) (ρ':=fun k=>(("k":Str),.val (.int (k:Int))) :: [(("kinds":Str),.val (.lst (kinds.map encK))),(("struck":Str),.val (.int (s:Int)))])
   ⟨i_range (H.gl _ _ rfl) (v_lenD' H (v_name rfl).r hkm (by dict_keeps)) (by dict_keeps),⟨rfl,by kernel_rfl,rfl,by kernel_rfl,trivial⟩,fun x y e=>by cases e; rfl,fun u o9=>tgt_name (by kernel_rfl) (by kernel_rfl) rfl,by rw [List.length_range,sizeLine_eq]; dict_keeps⟩
   (fun k=>decide (s / 2 ^ k % 2 = 0)) (fun k hk'=>by
    have hk8:k < 8:=by have:=List.mem_range.mp hk'; dict_keeps
    have h256:2 ^ k≤2 ^ 8:=Nat.pow_le_pow_right (by decide) (by dict_keeps)
    exact (t_cmp (v_bin (v_bin (v_name rfl) (v_bin v_int (v_name rfl) (bin_pow2 (by dict_keeps))) (bin_divN (Nat.two_pow_pos k) (by dict_keeps))) v_int (bin_modN (b:=2) (by decide))).r v_int.r (cmp_eq .int .int)).of (eqv_nat _ 0)) (fun k hk' o9=>by
    have hk8:=List.mem_range.mp hk'
    exact v_at (v_name rfl).r (v_name rfl) (by rw [List.getElem?_map,List.getD_eq_getElem?_getD,List.getElem?_eq_getElem hk8]; rfl) (by rw [hkm]; dict_keeps))) ?_
 refine ws_freeze (x:="left") rfl ?_
 have hsl:=hk.len
 have r5:∀ x∈kinds,x.1 < 5∧x.2 < 5:=fun x hx=>⟨by have:=(hk.rng x hx).1; dict_keeps,by have:=(hk.rng x hx).2; dict_keeps⟩
 refine s_assignC (hs:=by intro env h; cases env; cases h; kernel_rfl) (ds:=(keptS kinds steps s).map encK) (f_filter (l:=steps) (enc:=fun x=>.py (encK x)) (f:=encK) (ρc:=[(("left":Str),.val (.lst ((leftS kinds s).map encK)))]) (ρ':=fun x=>(("step":Str),.val (.py (encK x))) :: [(("left":Str),.val (.lst ((leftS kinds s).map encK)))])
  ⟨i_lstM (v_name rfl),⟨rfl,by kernel_rfl,trivial⟩,encK_inj,fun u o9=>tgt_name (by kernel_rfl) (by kernel_rfl) rfl,by rw [sizeLine_eq]; dict_keeps⟩
  (fun x=>decide (x∈leftS kinds s)) (fun x hx=>(t_cmp (v_name rfl).r (v_name rfl).r (cmp_in (sh_encK (r5 x (hk.sub x hx)).1 (r5 x (hk.sub x hx)).2) (sh_encKs fun y hy=>r5 y (mem_of_left hy)))).of (any_encK _ _)) (fun x o9 o9=>v_name rfl)) ?_
 refine ws_freeze (x:="kept") rfl ?_
 exact ws_sub (SubL.sub (ρ₁:=rhoL n kinds steps s W F) ⟨rfl,rfl,rfl,rfl,rfl,rfl,rfl,rfl,trivial⟩) k
end
theorem small_kK {n:Nat} {l:List (Nat×Nat)} (hn:n≤5) (hl:l.length≤70):Small (kN (List.range n)) (kE l) :=
 ⟨by simp [kN]; grows_one,fun k=>Nat.le_trans (List.length_filter_le _ _) (by unfold kE; rw [List.length_map]; grows_one)⟩
theorem kept_len {n:Nat} {kinds steps:List (Nat×Nat)} {s:Nat} (hk:Kinds n kinds steps):(keptS kinds steps s).length≤70:=Nat.le_trans (List.length_filter_le _ _) hk.len
theorem kept_rng {n:Nat} {kinds steps:List (Nat×Nat)} {s:Nat} (hk:Kinds n kinds steps):∀ x∈keptS kinds steps s,x.1 < n∧x.2 < n:=fun x hx=>hk.rng x (hk.sub x (List.mem_filter.mp hx).1)
noncomputable def rhoM (n:Nat) (kinds steps:List (Nat×Nat)) (s:Nat) (W F:List Nat) (a:Addr):Rho:=(("sorter":Str),.val (.ref a)) :: rhoL n kinds steps s W F
section
variable {K:Kx} (H:Here K)
include H
theorem turn_sorter {m n s:Nat} {kinds steps:List (Nat×Nat)} {W F:List Nat} {S:Cs} {Q:Fl→Rho→Cs→Prop} (hk:Kinds n kinds steps)
  (k:∀ a S',HU (kN (List.range n)) (kE (keptS kinds steps s)) a S'→WS (m + 5) K (CR K) (scAt 156) (rhoM n kinds steps s W F a) S' (body5.drop 5) Q) :
  WS (m + 5) K (CR K) (scAt 156) (rhoL n kinds steps s W F) S (body5.drop 2) Q:=by
 have hn:=hk.n5
 have hkl:=kept_len (s:=s) hk
 have hkr:=kept_rng (s:=s) hk
 refine ws_cons (wx_assign (we_sorter H fun a S₁ hU=>?_))
 refine s_for (List.range n) (fun v:Nat=>.py (nm v).d) (fun pre ρ' S'=>ρ' = rhoM n kinds steps s W F a∧HU (kN pre) [] a S') (i_lstM (v_name rfl)) ⟨_,SubL.sub (ρ₁:=rhoM n kinds steps s W F a) ⟨rfl,rfl,rfl,rfl,rfl,rfl,rfl,rfl,rfl,trivial⟩,rfl,hU⟩ ?_ ?_
 ·rintro pre v post ρ₁ S₂ e ⟨hρ,hU2⟩
  subst hρ
  have hvp:v∉pre:=fun z=>by
   have nd:=List.nodup_range (n:=n)
   rw [e] at nd
   exact (List.nodup_append.mp nd).2.2 v z v (.head _) rfl
  have hpl:pre.length≤5:=by
   have:=congrArg List.length e
   rw [List.length_range,List.length_append] at this; dict_keeps
  refine ⟨_,_,asg_name (by kernel_rfl),asgok_name,?_⟩
  refine ws_cons (wx_expr (wex_add H rfl hU2 ⟨by unfold kN; rw [List.length_map]; dict_keeps,fun k=>Nat.zero_le _⟩ (k:=nm v) (ps:=[]) (es_cons (v_name rfl) es_nil) (by simp) (by simp) fun S' h=>⟨rfl,ws_nil ⟨_,SubL.sub (ρ₁:=rhoM n kinds steps s W F a) ⟨rfl,rfl,rfl,rfl,rfl,rfl,rfl,rfl,rfl,trivial⟩,rfl,?_⟩⟩))
  rw [putV_new (fun z=>hvp (mem_kN.mp z))] at h
  have ek:kN (pre ++ [v]) = kN pre ++ [nm v]:=by unfold kN; rw [List.map_append]; rfl
  rw [ek]; exact h
 rintro ρ₁ S₂ ⟨hρ,hU2⟩
 subst hρ
 refine s_for (keptS kinds steps s) (fun s=>.py (encK s)) (fun pre ρ' S'=>ρ' = rhoM n kinds steps s W F a∧HU (kN (List.range n)) (kE pre) a S') (i_lstM (v_name rfl)) ⟨_,Sub.refl _,rfl,hU2⟩ ?_ ?_
 ·rintro pre x post ρ₁ S₃ e ⟨hρ,hU3⟩
  subst hρ
  obtain ⟨r1,r2⟩:=hkr x (by rw [e]; simp)
  have hpl:pre.length≤70:=by rw [e,List.length_append] at hkl; dict_keeps
  have inV:∀ v,v < n→nm v∈kN (List.range n):=fun v hv=>mem_kN.mpr (List.mem_range.mpr hv)
  refine ⟨_,_,asg_pair (by kernel_rfl) (by kernel_rfl),asgok_pair,?_⟩
  refine ws_cons (wx_expr (wex_add H rfl hU3 (small_kK hn hpl) (k:=nm x.2) (ps:=[nm x.1]) (es_cons (v_name rfl) (es_cons (v_name rfl) es_nil)) (by show 1≤_; dict_keeps) (fun p hp=>by
   rw [List.mem_singleton.mp hp,putV_old (inV _ r2)]; exact inV _ r1) fun S' h=>⟨rfl,ws_nil ⟨_,SubL.sub (ρ₁:=rhoM n kinds steps s W F a) ⟨rfl,rfl,rfl,rfl,rfl,rfl,rfl,rfl,rfl,trivial⟩,rfl,?_⟩⟩))
  rw [putV_old (inV _ r2)] at h
  have ek:kE (pre ++ [x]) = kE pre ++ [(nm x.1,nm x.2)]:=by unfold kE; rw [List.map_append]; rfl
  rw [ek]; exact h
 rintro ρ₁ S₃ ⟨hρ,hU3⟩
 subst hρ
 exact k a S₃ hU3
noncomputable def foundRet:Option (List Ky)→Ret
 | none=>.val .none
 | some l=>.new (l.map Ky.d)
theorem hu_find {n:Nat} {S:Cs} {a:Addr} {V:List Ky} {E:List (Ky×Ky)} (h:HU V E a S) (hsz:V.length≤700) :
  ∃ da,S a = some (.inst 137 da [])∧(∃ T:SS,S da = some (.attrs T.attrs))∧WCall (n + 3) K (CR K) S (.ref 127) [.ref a] fun q S'=>HU V E a S'∧∃ r,Finds (gE E) V [] r∧q = foundRet r:=by
 obtain ⟨T,h1,h2,h3,h4,h5,h6,h7⟩:=h
 have hlen:=HU.len (a:=a) (S:=S) h6
 have f:=find127 (n:=n) H h1 (Run.start h6 h7).closed (by rw [hlen]; grows_one)
 have ek:T.nodes.map (·.key) = V:=by rw [← h6.keys,an_keys]
 rw [h2,succ_gE h6 h7,ek] at f
 refine ⟨T.da,h2 ▸ h1.inst,⟨T,h1.attrs⟩,f.mono fun q S' hp=>?_⟩
 obtain ⟨g1,r,g2,g3⟩:=hp
 exact ⟨⟨T,g1,h2,h3,h4,h5,h6,h7⟩,r,g2,by rw [g3]; cases r <;> rfl⟩
theorem hr_find {n:Nat} {S:Cs} {a:Addr} {V:List Ky} {E:List (Ky×Ky)} {D O:List Ky} (h:HR V E D O a S) (hsz:V.length≤700) :
  ∃ da,S a = some (.inst 137 da [])∧(∃ T:SS,S da = some (.attrs T.attrs))∧WCall (n + 3) K (CR K) S (.ref 127) [.ref a] fun q S'=>HR V E D O a S'∧∃ r,Finds (gE E) V [] r∧q = foundRet r:=by
 obtain ⟨T,r,B,h1,h2,h3⟩:=h
 have ea:T.an.map (·.1) = V:=by rw [h1.an]; exact h3.keys
 have ek:T.nodes.map (·.key) = V:=by rw [← an_keys]; exact ea
 have hlen:T.nodes.length = V.length:=by rw [← ek,List.length_map]
 have f:=find127 (n:=n) H h1.so (by rw [h1.an]; exact h3.closed) (by rw [hlen]; omega)
 have eg:succOf T.an = gE E:=funext fun u=>by
  rw [h1.an]
  by_cases hu:u∈V
  ·exact h3.succ u hu
  ·have e1:succOf B.an u = []:=by
    rw [succ_shape]
    have:(shape B.an).find? (fun x=>x.1 = u) = none:=by
     rw [List.find?_eq_none]; intro x hx z
     simp at z
     apply hu
     rw [← h3.keys,← shape_keys,← z]
     exact List.mem_map.mpr ⟨x,hx,rfl⟩
    rw [this]; rfl
   have e2:gE E u = []:=by
    cases e:gE E u with
    | nil=>rfl
    | cons v r=>exact absurd (h3.ed _ (mem_gE.mp (e ▸ List.mem_cons_self:v∈gE E u))).1 hu
   rw [e1,e2]
 rw [h2,eg,ek] at f
 refine ⟨T.da,h2 ▸ h1.so.inst,⟨T,h1.so.attrs⟩,f.mono fun q S' hp=>?_⟩
 obtain ⟨g1,r',g2,g3⟩:=hp
 exact ⟨⟨T,r,B,⟨g1,h1.an,h1.rl,h1.out,h1.fin⟩,h2,h3⟩,r',g2,by rw [g3]; cases r' <;> rfl⟩
theorem turn_told {m n s:Nat} {kinds steps:List (Nat×Nat)} {W F:List Nat} {S:Cs} {Q:Fl→Rho→Cs→Prop} {a:Addr} (hk:Kinds n kinds steps) (h:HU (kN (List.range n)) (kE (keptS kinds steps s)) a S)
  (k0:∀ S',HU (kN (List.range n)) (kE (keptS kinds steps s)) a S'→Finds (gE (kE (keptS kinds steps s))) (kN (List.range n)) [] none→WS (m + 5) K (CR K) (scAt 156) ((("told":Str),.val .none) :: rhoM n kinds steps s W F a) S' (body5.drop 6) Q)
  (k1:∀ S' l,HU (kN (List.range n)) (kE (keptS kinds steps s)) a S'→Finds (gE (kE (keptS kinds steps s))) (kN (List.range n)) [] (some l)→WS (m + 5) K (CR K) (scAt 156) ((("told":Str),.own (l.map Ky.d)) :: rhoM n kinds steps s W F a) S' (body5.drop 6) Q) :
  WS (m + 5) K (CR K) (scAt 156) (rhoM n kinds steps s W F a) S (body5.drop 5) Q:=by
 have hn:=hk.n5
 obtain ⟨da,hi,⟨T,ht⟩,w⟩:=hu_find (n:=m + 2) H h (by simp [kN]; grows_one)
 refine ws_cons (wx_assignM (a:=a) (C:=137) rfl (cls137 H) (meth127 H) (fn127 H) hi ht rfl (w.mono fun q S' hp=>?_))
 obtain ⟨g1,r,g2,g3⟩:=hp
 subst g3
 cases r with
 | none=>exact k0 S' g1 g2
 | some l=>exact k1 S' l g1 g2
end
noncomputable def rowV (kept:List (Nat×Nat)) (v:Nat):PyData:=.list [(nm v).d,.int ((nD (kept.map (·.2))).countP fun u=>PyData.eqv u (nm v).d:Nat),.list ((kept.filter fun x=>decide (x.1 = v)).map fun x=>(nm x.2).d)]
theorem count_ends (kept:List (Nat×Nat)) (v:Nat):((nD (kept.map (·.2))).countP fun u=>PyData.eqv u (nm v).d) = cntE (kE kept) [] (nm v):=by
 unfold cntE nD kE
 rw [List.map_map,List.countP_map,List.countP_eq_length_filter,List.filter_map,List.length_map]
 congr 1
 refine List.filter_congr fun x o9=>?_
 simp only [Function.comp]
 rw [eqv_ky]; simp
theorem succ_ends (kept:List (Nat×Nat)) (v:Nat):(gE (kE kept) (nm v)).map Ky.d = (kept.filter fun x=>decide (x.1 = v)).map fun x=>(nm x.2).d:=by
 unfold gE kE
 rw [List.filter_map,List.map_map,List.map_map]
 congr 1
 refine List.filter_congr fun x o9=>?_
 simp only [Function.comp]
 rw [decide_eq_decide]
 exact ⟨fun h=>nm_inj h,fun h=>by rw [h]⟩
theorem table_rows {n:Nat} {kept:List (Nat×Nat)} {S:Cs} {T:SS} {r:Addr} {B:Ab} (h:Holds S T r B) (run:Run (kN (List.range n)) (kE kept) [] [] B):T.nodes.map rowD = (List.range n).map (rowV kept):=by
 have ea:T.an.map (·.1) = kN (List.range n):=by rw [h.an]; exact run.keys
 have ek:T.nodes.map (·.key) = kN (List.range n):=by rw [← an_keys]; exact ea
 have hrow:∀ x∈T.nodes,rowD x = .list [x.key.d,.int (cntE (kE kept) [] x.key:Nat),.list ((gE (kE kept) x.key).map Ky.d)]:=fun x hx=>by
  have hV:x.key∈kN (List.range n):=by rw [← ek]; exact List.mem_map.mpr ⟨x,hx,rfl⟩
  rcases npOf_nodes (k:=x.key) (l:=T.nodes) with ⟨y,hy,e1,_,e3,e4⟩ | ⟨h1,_⟩
  ·have:=key_inj h.so.keys hy hx e1; subst this
   have e5:npOf T.an y.key = some y.np:=e3
   have e6:succOf T.an y.key = y.succ:=e4
   rw [h.an] at e5 e6
   rw [run.npW y.key hV (by simp) (by simp)] at e5
   rw [run.succ y.key hV] at e6
   unfold rowD
   rw [← Option.some.inj e5,← e6]; rfl
  ·exact absurd (List.mem_map.mpr ⟨x,hx,rfl⟩) h1
 have e1:T.nodes.map rowD = (T.nodes.map (·.key)).map fun k=>.list [k.d,.int (cntE (kE kept) [] k:Nat),.list ((gE (kE kept) k).map Ky.d)]:=by
  rw [List.map_map]; exact List.map_congr_left hrow
 rw [e1,ek]
 unfold kN
 rw [List.map_map]
 refine List.map_congr_left fun v o9=>?_
 unfold rowV
 rw [count_ends,← succ_ends]; rfl
section
variable {K:Kx} (H:Here K)
include H
theorem turn_table {m n s:Nat} {kinds steps:List (Nat×Nat)} {S:Cs} {Q:Fl→Rho→Cs→Prop} {a:Addr} {ρ:Rho} (hk:Kinds n kinds steps) (h:HR (kN (List.range n)) (kE (keptS kinds steps s)) [] [] a S)
  (h1:ρ.lookup ("sorter":Str) = some (.val (.ref a))) (h2:ρ.lookup ("kept":Str) = some (.val (.lst ((keptS kinds steps s).map encK)))) (h3:ρ.lookup ("names":Str) = some (.val (.lst (nD (List.range n)))))
  (k:∀ ρ' S',(∀ x,x≠("table":Str)→x≠("ends":Str)→List.lookup x ρ' = List.lookup x ρ)→Q .next ρ' S') :
  WS (m + 5) K (CR K) (scAt 156) ρ S (body5.drop 10) Q:=by
 have hn:=hk.n5
 have hkl:=kept_len (s:=s) hk
 have hkr:=kept_rng (s:=s) hk
 obtain ⟨T,r,B,g1,g2,g3⟩:=h
 have ek:T.nodes.length = n:=by
  have:T.nodes.map (·.key) = kN (List.range n):=by rw [← an_keys,g1.an]; exact g3.keys
  have:=congrArg List.length this
  rw [List.length_map] at this; rw [this]; simp [kN]
 refine s_table (m:=m + 3) H g1.so (by dict_keeps) (by rw [g2]; exact h1) fun S₁=>?_
 rw [table_rows g1 g3]
 generalize keptS kinds steps s = kept at *
 have lk:∀ {x:Str} {sl:Slot} {y:Str} {sl':Slot},x≠y→ρ.lookup x = some sl→List.lookup x ((y,sl') :: ρ) = some sl:=fun hne e=>by rw [lookup_cons_ne hne]; exact e
 have eD:nD (kept.map (·.2)) = kept.map fun x=>(nm x.2).d:=by unfold nD; rw [List.map_map]; rfl
 refine s_assignC (hs:=by intro env h; cases env; cases h; kernel_rfl) (ds:=nD (kept.map (·.2))) (by
  rw [eD]
  exact f_map (l:=kept) (enc:=fun x=>.py (encK x)) (f:=fun x=>(nm x.2).d) (ρc:=[]) (ρ':=fun x=>(("end":Str),.val (.py (nm x.2).d)) :: (("start":Str),.val (.py (nm x.1).d)) :: [])
   ⟨i_lstM (v_name (lk (by decide) h2)),trivial,encK_inj,fun u o9=>tgt_pair (by kernel_rfl) (by kernel_rfl) (by kernel_rfl) (by kernel_rfl) rfl rfl,by rw [sizeLine_eq]; dict_keeps⟩
   fun x o9=>v_name rfl) ?_
 refine ws_freeze (x:="ends") rfl ?_
 have sh5:∀ v∈kept.map (·.2),v < 5:=fun v hv=>by obtain ⟨x,hx,rfl⟩:=List.mem_map.mp hv; have:=(hkr x hx).2; dict_keeps
 have shF:∀ {v:Nat} {j:Nat},ShAll j ((kept.filter fun x=>decide (x.1 = v)).map fun x=>(nm x.2).d):=.of fun d hd=>by
  obtain ⟨x,hx,rfl⟩:=List.mem_map.mp hd
  exact nm_sh (by have:=(hkr x (List.mem_filter.mp hx).1).2; dict_keeps)
 have shR:ShAll 49 ((List.range n).map (rowV kept)):=.of fun d hd=>by
  obtain ⟨v,hv,rfl⟩:=List.mem_map.mp hd
  have:=List.mem_range.mp hv
  exact .list (.cons (nm_sh (by dict_keeps)) (.cons .int (.cons (.list shF) .nil)))
 have rf:PyData.eqv (.list ((List.range n).map (rowV kept))) (.list ((List.range n).map (rowV kept))) = true:=eqv_lrefl fun d hd=>by
  obtain ⟨v,hv,rfl⟩:=List.mem_map.mp hd
  refine eqv_lrefl fun d hd=>?_
  simp only [List.mem_cons,List.not_mem_nil,or_false] at hd
  rcases hd with rfl | rfl | rfl
  ·exact nm_refl
  ·exact int_refl
  ·exact eqv_lrefl fun d hd=>by obtain ⟨x,_,rfl⟩:=List.mem_map.mp hd; exact nm_refl
 refine s_skip ((t_cmp (r_own rfl) (f_map (l:=List.range n) (enc:=fun v:Nat=>.py (nm v).d) (f:=rowV kept) (ρc:=[(("ends":Str),.val (.lst (nD (kept.map (·.2))))),(("kept":Str),.val (.lst (kept.map encK)))]) (ρ':=fun v=>(("name":Str),.val (.py (nm v).d)) :: [(("ends":Str),.val (.lst (nD (kept.map (·.2))))),(("kept":Str),.val (.lst (kept.map encK)))])
  ⟨i_lstM (v_name (by rw [lookup_cons_ne (by decide),lookup_cons_ne (by decide),lookup_cons_ne (by decide)]; exact h3)),⟨rfl,by kernel_rfl,by rw [lookup_cons_ne (by decide),lookup_cons_ne (by decide),lookup_cons_ne (by decide)]; exact h2,by kernel_rfl,trivial⟩,fun x y e=>nm_inj (Ky.d_inj (D.py.inj e)),fun u o9=>tgt_name (by kernel_rfl) (by kernel_rfl) rfl,by rw [List.length_range,sizeLine_eq]; dict_keeps⟩
  fun v hv=>(f_list (l:=[(nm v).d,.int ((nD (kept.map (·.2))).countP fun u=>PyData.eqv u (nm v).d:Nat),.list ((kept.filter fun x=>decide (x.1 = v)).map fun x=>(nm x.2).d)]) (es_cons (v_name rfl) (es_cons (v_countof rfl (sh_nD sh5) (v_name rfl) (nm_sh (by have:=List.mem_range.mp hv; dict_keeps))) (es_cons (VF.e (f_filter (l:=kept) (enc:=fun x=>.py (encK x)) (f:=fun x=>(nm x.2).d) (ρc:=[(("name":Str),.val (.py (nm v).d))]) (ρ':=fun x=>(("end":Str),.val (.py (nm x.2).d)) :: (("start":Str),.val (.py (nm x.1).d)) :: [(("name":Str),.val (.py (nm v).d))])
   ⟨i_lstM (v_name rfl),⟨rfl,by kernel_rfl,trivial⟩,encK_inj,fun u o9=>tgt_pair (by kernel_rfl) (by kernel_rfl) (by kernel_rfl) (by kernel_rfl) rfl rfl,by rw [sizeLine_eq]; dict_keeps⟩
   (fun x=>decide (x.1 = v)) (fun x hx=>(t_cmp (v_name rfl).r (v_name rfl).r (cmp_eq (nm_sh (by have:=(hkr x hx).1; dict_keeps)) (nm_sh (by have:=List.mem_range.mp hv; dict_keeps)))).of (by
    rw [eqv_ky,decide_eq_decide]
    exact ⟨fun h=>nm_inj h,fun h=>by rw [h]⟩)) (fun x o9 o9=>v_name rfl) (hsc:=by kernel_rfl))) es_nil))) (by rw [sizeLine_eq]; show 3≤_; decide)).e).e.r (cmp_ne (.list shR) (.list shR))).of (by rw [rf]; rfl)) ?_
 refine ws_nil (k _ _ fun x hx1 hx2=>?_)
 rw [lookup_cons_ne hx2,lookup_cons_ne hx2,lookup_cons_ne hx1]
end
theorem eqv_nilL (l:List PyData):PyData.eqv (.list l) (.list []) = l.isEmpty:=by cases l <;> rfl
theorem sub_rhoK {n:Nat} {kinds steps:List (Nat×Nat)} {W F:List Nat} {ρ ρ':Rho} (h:Sub (rhoK n kinds steps W F) ρ) (e:∀ x,x≠("table":Str)→x≠("ends":Str)→List.lookup x ρ' = List.lookup x ρ):Sub (rhoK n kinds steps W F) ρ':=fun x sl hx=>by
 have h1:x≠("table":Str):=fun z=>by subst z; cases hx
 have h2:x≠("ends":Str):=fun z=>by subst z; cases hx
 rw [e x h1 h2]; exact h x sl hx
section
variable {K:Kx} (H:Here K)
include H
theorem we_prepareF {n:Nat} {sc:Scope} {ρ:Rho} {S:Cs} {x:Str} {np ap cp:Pos} {a:Addr} {V:List Ky} {E:List (Ky×Ky)} {Q:D→Cs→Prop} (hx:ρ.lookup x = some (.val (.ref a))) (h:HU V E a S) (hsz:V.length≤700) (hf:Finds (gE E) V [] none)
  (q:∀ S',HR V E [] [] a S'→Q .none S') (hdb:(x == ("__debug__":Str)) = false:=by rfl) (hline:(ap.endLine == cp.line) = true:=by rfl) :
  WE (n + 5) K (CR K) sc ρ S (.Call (.Attribute (.Name x np) "prepare" ap) [] [] cp) Q:=by
 obtain ⟨da,hi,⟨T,ht⟩,pr⟩:=hu_prepare (n:=n) H h hsz
 refine WEX.no (wex_meth (a:=a) (C:=137) hx (cls137 H) (meth92 H) (fn92 H) hi ht rfl (wes_nil (pr.mono fun r S' hp0=>?_)) rfl hdb hline (by intro o9; rfl))
 obtain ⟨res,e1,e2,g⟩:=hp0
 obtain rfl:=hf.det e1
 subst e2; exact q S' g
theorem wex_prepareR {n:Nat} {sc:Scope} {ρ:Rho} {S:Cs} {x:Str} {np ap cp:Pos} {a:Addr} {V:List Ky} {E:List (Ky×Ky)} {l:List Ky} {X:Value→List PyData→Cs→Prop} (hx:ρ.lookup x = some (.val (.ref a))) (h:HU V E a S) (hsz:V.length≤700) (hf:Finds (gE E) V [] (some l))
  (q:∀ S',HR V E [] [] a S'→X (.ref 55) [.str "nodes are in a cycle",.list (l.map Ky.d)] S') (hdb:(x == ("__debug__":Str)) = false:=by rfl) (hline:(ap.endLine == cp.line) = true:=by rfl) :
  WEX (n + 5) K (CR K) sc ρ S (.Call (.Attribute (.Name x np) "prepare" ap) [] [] cp) (fun o9 o9=>False) X:=by
 obtain ⟨da,hi,⟨T,ht⟩,pr⟩:=hu_prepare (n:=n) H h hsz
 refine wex_meth (a:=a) (C:=137) hx (cls137 H) (meth92 H) (fn92 H) hi ht rfl (wes_nil (pr.mono fun r S' hp0=>?_)) rfl hdb hline (by intro o9; rfl)
 obtain ⟨res,e1,e2,g⟩:=hp0
 obtain rfl:=hf.det e1
 subst e2; exact q S' g
noncomputable def foundD:Option (List Ky)→D
 | none=>.none
 | some l=>.lst (l.map Ky.d)
theorem we_findH {n:Nat} {sc:Scope} {ρ:Rho} {S:Cs} {x:Str} {np ap cp:Pos} {a:Addr} {V:List Ky} {E:List (Ky×Ky)} {D O:List Ky} {res:Option (List Ky)} {Q:Mine.D→Cs→Prop} (hx:ρ.lookup x = some (.val (.ref a))) (h:HR V E D O a S) (hsz:V.length≤700) (hf:Finds (gE E) V [] res)
  (q:∀ S',HR V E D O a S'→Q (foundD res) S') (hdb:(x == ("__debug__":Str)) = false:=by rfl) (hline:(ap.endLine == cp.line) = true:=by rfl) :
  WE (n + 3) K (CR K) sc ρ S (.Call (.Attribute (.Name x np) "_find_cycle" ap) [] [] cp) Q:=by
 obtain ⟨da,hi,⟨T,ht⟩,f⟩:=hr_find (n:=n) H h hsz
 refine WEX.no (wex_meth (a:=a) (C:=137) hx (cls137 H) (meth127 H) (fn127 H) hi ht rfl (wes_nil (f.mono fun r S' hp0=>?_)) rfl hdb hline (by intro o9; rfl))
 obtain ⟨g,r',e1,e2⟩:=hp0
 obtain rfl:=hf.det e1
 subst e2
 cases res <;> exact q S' g
theorem turn_none {m n s:Nat} {kinds steps:List (Nat×Nat)} {W F:List Nat} {S:Cs} {Q:Fl→Rho→Cs→Prop} {a:Addr} (hk:Kinds n kinds steps) (h:HU (kN (List.range n)) (kE (keptS kinds steps s)) a S) (hf:Finds (gE (kE (keptS kinds steps s))) (kN (List.range n)) [] none) (hF:F.length≤300)
  (q:∀ ρ' S',Sub (rhoK n kinds steps W (F ++ [s])) ρ'→Q .next ρ' S') :
  WS (m + 5) K (CR K) (scAt 156) ((("told":Str),.val .none) :: rhoM n kinds steps s W F a) S (body5.drop 6) Q:=by
 have hn:=hk.n5
 have hV:(kN (List.range n)).length≤700:=by simp [kN]; grows_one
 refine s_assign (d:=.lst []) (v_ifexp (c:=true) ((t_isnone (v_name rfl)).of rfl) (fun o9=>VF.e (f_list (l:=[]) es_nil (Nat.zero_le _))) (fun z=>by cases z)) ?_
 refine s_if (b:=true) ((t_isnone (v_name rfl)).of rfl) (fun o9=>?_) (fun z=>by cases z)
 refine ws_cons (wx_append rfl (by rw [iI_len,sizeLine_eq]; grows_one) ((v_name rfl) _ ⟨_,rfl,?_⟩))
 refine ws_nil ?_
 refine ws_cons (wx_try (s_told (wt_or (wt_isnot (we_prepareF (n:=m) H rfl h hV hf fun S₁ hR=>?_)))))
 rw [if_neg (show ¬ ((!D.isNone D.none) = true) from Bool.false_ne_true)]
 refine (t_or ((t_cmp (v_name rfl).r (f_list (l:=[]) es_nil (Nat.zero_le _)).e.r (cmp_ne (.list .nil) (.list .nil))).of (c:=false) rfl) fun o9=>t_or0) _ ⟨rfl,ws_nil (ws_nil ?_)⟩
 refine s_told (wt_cmp (WE.weak (we_findH (n:=m + 2) H rfl hR hV hf fun S₂ hR2=>?_)))
 refine (v_ifexp (c:=true) (d:=.none) ((t_cmp (v_name rfl).r (f_list (l:=[]) es_nil (Nat.zero_le _)).e.r (cmp_eq (.list .nil) (.list .nil))).of rfl) (fun o9=>v_none) (fun z=>by cases z)).r _ ⟨_,cmp_ne .none .none,rfl,?_⟩
 refine turn_table (m:=m) (s:=s) H hk hR2 rfl rfl rfl fun ρ' S₃ e=>q ρ' S₃ (sub_rhoK (ρ:=(("free":Str),Slot.own (iI F ++ [.int (s:Int)])) :: (("ring":Str),.val (.lst [])) :: (("told":Str),.val .none) :: rhoM n kinds steps s W F a) ?_ e)
 refine SubL.sub ⟨rfl,?_,rfl,rfl,rfl,trivial⟩
 unfold iI
 rw [List.map_append]; rfl
end
noncomputable def ringSteps:List Nat→List (Nat×Nat)
 | a :: b :: r=>(a,b) :: ringSteps (b :: r)
 | _=>[]
structure RingN (n:Nat) (kept:List (Nat×Nat)) (L:List Nat):Prop where
 ends:∃ v M,L = v :: M ++ [v]
 nd:L.dropLast.Nodup
 lt:∀ v∈L,v < n
 steps:∀ x∈ringSteps L,x∈kept
theorem chn_steps {kept:List (Nat×Nat)}:∀ {L:List Nat},Chn (gE (kE kept)) (kN L)→∀ x∈ringSteps L,x∈kept:=by
 intro L
 induction L with
 | nil=>intro o9 x hx; cases hx
 | cons a L ih =>
  intro h x hx
  cases L with
  | nil=>cases hx
  | cons b r =>
   obtain ⟨h1,h2⟩:=h
   rcases List.mem_cons.mp hx with rfl | hx
   ·obtain ⟨y,hy,e⟩:=List.mem_map.mp (mem_gE.mp h1)
    have e1:y = (a,b):=Prod.ext (nm_inj (Prod.mk.inj e).1) (nm_inj (Prod.mk.inj e).2)
    rw [← e1]; exact hy
   ·exact ih h2 x hx
theorem chn_mem {g:Ky→List Ky} {V:List Ky} (hV:∀ a b,b∈g a→a∈V∧b∈V):∀ {l:List Ky},Chn g l→2≤l.length→∀ k∈l,k∈V:=by
 intro l
 induction l with
 | nil=>intro o9 h; simp at h
 | cons a l ih =>
  intro h h2 k hk
  cases l with
  | nil=>simp at h2
  | cons b r =>
   obtain ⟨p,q⟩:=h
   rcases List.mem_cons.mp hk with rfl | hk
   ·exact (hV _ _ p).1
   ·cases r with
    | nil=>rw [List.mem_singleton.mp hk]; exact (hV _ _ p).2
    | cons c r=>exact ih q (by simp) k hk
theorem ring_nat {n:Nat} {kept:List (Nat×Nat)} (hr:∀ x∈kept,x.1 < n∧x.2 < n) {l:List Ky} (h:RingOk (gE (kE kept)) l):∃ L,l = kN L∧RingN n kept L:=by
 obtain ⟨x,m,e⟩:=h.ends
 have mem:∀ k∈l,k∈kN (List.range n):=chn_mem (fun a b hb=>by
  obtain ⟨y,hy,e⟩:=List.mem_map.mp (mem_gE.mp hb)
  obtain ⟨e1,e2⟩:=Prod.mk.inj e
  rw [← e1,← e2]
  exact ⟨mem_kN.mpr (List.mem_range.mpr (hr y hy).1),mem_kN.mpr (List.mem_range.mpr (hr y hy).2)⟩) h.chn (by rw [e]; simp)
 obtain ⟨L,eL⟩:=unnm mem
 subst eL
 refine ⟨L,rfl,?_,?_,fun v hv=>List.mem_range.mp (mem_kN.mp (mem (nm v) (mem_kN.mpr hv))),chn_steps h.chn⟩
 ·have e:L.map nm = (x :: m) ++ [x]:=e
  obtain ⟨A,B,e1,e2,e3⟩:=List.map_eq_append_iff.mp e
  obtain ⟨v,M,f1,f2,f3⟩:=List.map_eq_cons_iff.mp e2
  obtain ⟨v',N,g1,g2,g3⟩:=List.map_eq_cons_iff.mp e3
  obtain rfl:N = []:=List.map_eq_nil_iff.mp g3
  obtain rfl:v' = v:=nm_inj (g2.trans f2.symm)
  exact ⟨v',M,by rw [e1,f1,g1]⟩
 ·have nd:(kN L).dropLast.Nodup:=h.nd
  unfold kN at nd
  rw [← List.map_dropLast] at nd
  exact (List.pairwise_map.mp nd).imp fun hne e=>hne (congrArg nm e)
theorem ringSteps_len (L:List Nat):(ringSteps L).length = L.length - 1:=by
 induction L with
 | nil=>rfl
 | cons a L ih =>
  cases L with
  | nil=>rfl
  | cons b r=>show (ringSteps (b :: r)).length + 1 = _; rw [ih]; simp
theorem ringSteps_at {L:List Nat} {i:Nat} {u v:Nat} (hu:L[i]? = some u) (hv:L[i + 1]? = some v):(ringSteps L)[i]? = some (u,v):=by
 induction L generalizing i with
 | nil=>simp at hu
 | cons a L ih =>
  cases L with
  | nil=>simp at hv
  | cons b r =>
   cases i with
   | zero=>simp at hu hv; subst hu hv; rfl
   | succ i=>exact ih (i:=i) hu hv
theorem RingN.len {n:Nat} {kept:List (Nat×Nat)} {L:List Nat} (h:RingN n kept L):2≤L.length∧L.length≤n + 1:=by
 obtain ⟨v,M,e⟩:=h.ends
 have h1:=nodup_le (m:=List.range n) h.nd fun v hv=>List.mem_range.mpr (h.lt v (List.dropLast_subset _ hv))
 rw [List.length_range,List.length_dropLast] at h1
 refine ⟨by rw [e]; simp,by dict_keeps⟩
theorem RingN.diff {n:Nat} {kept:List (Nat×Nat)} {L:List Nat} (h:RingN n kept L) {l':List Ky} (nd:l'.Nodup) (hm:∀ x,x∈l'↔x∈kN L):(l'.length:Int) = (L.length:Int) - 1:=by
 obtain ⟨v,M,e⟩:=h.ends
 have h2:=h.len
 have hd:L.dropLast = v :: M:=by rw [e]; exact List.dropLast_concat
 have n1:(kN L.dropLast).Nodup:=List.pairwise_map.mpr (h.nd.imp fun hne e=>hne (nm_inj e))
 have a1:=nodup_le (m:=kN L.dropLast) nd fun x hx=>by
  obtain ⟨u,hu,rfl⟩:=List.mem_map.mp ((hm x).mp hx)
  refine mem_kN.mpr ?_
  rw [hd]
  rw [e] at hu
  rcases List.mem_append.mp hu with hu | hu
  ·exact hu
  ·rw [List.mem_singleton.mp hu]; exact .head _
 have a2:=nodup_le (m:=l') n1 fun x hx=>by
  obtain ⟨u,hu,rfl⟩:=List.mem_map.mp hx
  exact (hm _).mpr (mem_kN.mpr (List.dropLast_subset _ hu))
 have e3:(kN L.dropLast).length = L.length - 1:=by unfold kN; rw [List.length_map,List.length_dropLast]
 dict_keeps
noncomputable def onward (kinds:List (Nat×Nat)) (s:Nat) (R:List (Nat×Nat)):List Nat:=R.map fun x=>s + 2 ^ kinds.idxOf x
theorem idx_kinds {kinds:List (Nat×Nat)} {x:Nat×Nat} (h:x∈kinds):(kinds.map encK)[kinds.idxOf x]? = some (encK x)∧kinds.idxOf x < kinds.length∧∀ m u,m < kinds.idxOf x→(kinds.map encK)[m]? = some u→PyData.eqv u (encK x) = false:=by
 have h1:kinds.idxOf x < kinds.length:=List.idxOf_lt_length_of_mem h
 refine ⟨?_,h1,fun m u hm hu=>?_⟩
 ·rw [List.getElem?_map,List.getElem?_eq_getElem h1,List.getElem_idxOf h1]; rfl
 ·rw [List.getElem?_map,List.getElem?_eq_getElem (by dict_keeps)] at hu
  obtain rfl:=Option.some.inj hu
  rw [eqv_encK]
  refine decide_eq_false fun e=>?_
  have:=List.not_of_lt_findIdx (p:=(· == x)) (xs:=kinds) (i:=m) hm
  simp [e] at this
theorem two_le' (a b:PyData):[a,b].length≤sizeLine:=by rw [sizeLine_eq]; show 2≤_; decide
noncomputable def rhoR (n:Nat) (kinds steps:List (Nat×Nat)) (s:Nat) (W F:List Nat) (a:Addr) (L:List Nat) (told:List PyData):Rho :=
 [(("waiting":Str),.own (iI W)),(("told":Str),.own told),(("ring":Str),.val (.lst (nD L))),(("sorter":Str),.val (.ref a)),(("kept":Str),.val (.lst ((keptS kinds steps s).map encK))),(("left":Str),.val (.lst ((leftS kinds s).map encK))),(("struck":Str),.val (.int (s:Int))),
  (("free":Str),.own (iI F)),(("names":Str),.val (.lst (nD (List.range n)))),(("kinds":Str),.val (.lst (kinds.map encK))),(("steps":Str),.val (.lst (steps.map encK)))]
section
variable {K:Kx} (H:Here K)
include H
theorem turn_ring {m n s:Nat} {kinds steps:List (Nat×Nat)} {W F L:List Nat} {S:Cs} {Q:Fl→Rho→Cs→Prop} {a:Addr} (hk:Kinds n kinds steps) (R:RingN n (keptS kinds steps s) L) (hW:W.length≤100000)
  (k:∀ S',S' = S→WS (m + 5) K (CR K) (scAt 156) (rhoR n kinds steps s (W ++ onward kinds s (ringSteps L)) F a L []) S' (body5.drop 8) Q) :
  WS (m + 5) K (CR K) (scAt 156) (rhoR n kinds steps s W F a L (nD L)) S (body5.drop 7) Q:=by
 have hn:=hk.n5
 obtain ⟨v,M,e⟩:=R.ends
 have hl:=R.len
 have hnl:(nD L).length = L.length:=nD_len L
 have h0:(nD L)[0]? = some (nm v).d:=nD_at (by rw [e]; rfl)
 have hz:idx (nD L) (-1) = some (nm v).d:=by
  unfold idx
  rw [if_neg (by decide),if_pos (by rw [hnl]; dict_keeps)]
  refine nD_at ?_
  have:((-1:Int) + ((nD L).length:Nat)).toNat = (v :: M).length:=by rw [hnl,e,List.length_append]; simp only [List.length_cons,List.length_nil]; dict_keeps
  rw [this,e,List.getElem?_append_right (Nat.le_refl _),Nat.sub_self]; rfl
 have r5:∀ x∈kinds,x.1 < 5∧x.2 < 5:=fun x hx=>⟨by have:=(hk.rng x hx).1; dict_keeps,by have:=(hk.rng x hx).2; dict_keeps⟩
 have v5:v < 5:=by have:=R.lt v (by rw [e]; exact .head _); dict_keeps
 have mem_l:∀ x∈ringSteps L,x∈leftS kinds s:=fun x hx=>by
  have:=(List.mem_filter.mp (R.steps x hx)).2
  simpa using this
 refine s_if (b:=false) (t_isnone_own rfl) (fun z=>by cases z) (fun o9=>?_)
 refine s_told (wt_or (((t_cmp (v_lenD' H (v_name rfl).r hnl (by dict_keeps)).r v_int.r cmp_lt).of (c:=false) (decide_eq_false (by dict_keeps))) _ ?_))
 rw [if_neg Bool.false_ne_true]
 refine wt_or (((t_cmp (v_at (k:=0) (v_name rfl).r (VE.of v_int rfl) h0 (by rw [hnl]; dict_keeps)).r (v_idx (k:=-1) (v_name rfl).r (v_neg v_int) hz (by rw [hnl]; dict_keeps)).r (cmp_ne (nm_sh v5) (nm_sh v5))).of (c:=false) (by rw [nm_refl]; rfl)) _ ?_)
 rw [if_neg Bool.false_ne_true]
 refine wt_or (wt_cmp (WE.weak (we_lenset (H.gl _ _ rfl) (H.gl _ _ rfl) ((v_name rfl).r _ ⟨kN L,by rw [kN_d],by unfold kN; rw [List.length_map]; dict_keeps,fun l' nd hm=>?_⟩))))
 refine (v_bin (v_lenD' H (v_name rfl).r hnl (by dict_keeps)) v_int bin_sub).r _ ⟨_,cmp_ne .int .int,?_⟩
 rw [eqv_int,R.diff nd hm,decide_eq_true rfl]
 refine (t_or0 (n:=m + 5)) _ ⟨rfl,?_⟩
 refine s_for (List.range (L.length - 1)) (fun i:Nat=>.int ((1 + i:Nat):Int)) (fun pre ρ' S'=>ρ' = rhoR n kinds steps s (W ++ onward kinds s ((ringSteps L).take pre.length)) F a L (nD L)∧S' = S) (fun Q q=>wi_range2 (H.gl _ _ rfl) (v_int _ ((v_lenD' H (v_name rfl).r hnl (by dict_keeps)) _ ⟨1,L.length,rfl,rfl,by dict_keeps,by dict_keeps,q⟩))) ⟨_,SubL.sub (ρ₁:=rhoR n kinds steps s (W ++ onward kinds s ((ringSteps L).take 0)) F a L (nD L)) ⟨by rw [List.take_zero]; show _ = some (Slot.own (iI (W ++ []))); rw [List.append_nil]; rfl,rfl,rfl,rfl,rfl,rfl,rfl,rfl,rfl,rfl,rfl,trivial⟩,rfl,rfl⟩ ?_ ?_
 ·rintro pre i post ρ₁ S₁ ei ⟨hρ,hS⟩
  subst hρ hS
  have hpi:pre.length = i:=by
   have h1:(List.range (L.length - 1))[pre.length]? = some i:=by rw [ei,List.getElem?_append_right (Nat.le_refl _),Nat.sub_self]; rfl
   have hi:=(List.getElem?_eq_some_iff.mp h1).1
   rw [List.getElem?_range (by rw [List.length_range] at hi; exact hi)] at h1
   exact Option.some.inj h1
  have hi:i < L.length - 1:=List.mem_range.mp (by rw [ei]; simp)
  obtain ⟨u,hu⟩:∃ u,L[i]? = some u:=⟨_,List.getElem?_eq_getElem (by dict_keeps)⟩
  obtain ⟨w,hw⟩:∃ w,L[i + 1]? = some w:=⟨_,List.getElem?_eq_getElem (by dict_keeps)⟩
  have hst:=ringSteps_at hu hw
  have hmem:(u,w)∈ringSteps L:=List.mem_of_getElem? hst
  have hleft:=mem_l _ hmem
  have hkin:=mem_of_left hleft
  obtain ⟨z1,z2,z3⟩:=idx_kinds hkin
  have hkl:=hk.few
  have u5:=(r5 _ hkin).1
  have w5:=(r5 _ hkin).2
  have h256:2 ^ kinds.idxOf (u,w)≤2 ^ 8:=Nat.pow_le_pow_right (by decide) (by dict_keeps)
  refine ⟨_,_,asg_name (by kernel_rfl),asgok_name,?_⟩
  refine s_assign (d:=.py (encK (u,w))) (v_tuple (l:=[(nm u).d,(nm w).d]) (es_cons (v_at (k:=i) (v_name rfl).r (VE.of (v_bin (v_name rfl) v_int bin_sub) (by rw [show (((1 + i:Nat):Int) - 1) = (i:Int) by dict_keeps])) (nD_at hu) (by rw [hnl]; dict_keeps)) (es_cons (v_at (k:=i + 1) (v_name rfl).r (VE.of (v_name rfl) (by rw [show (1 + i:Nat) = i + 1 by dict_keeps])) (nD_at hw) (by rw [hnl]; dict_keeps)) es_nil)) (two_le' _ _)) ?_
  refine s_skip ((t_cmp (v_name rfl).r (v_name rfl).r (cmp_notin (sh_encK u5 w5) (sh_encKs fun y hy=>r5 y (mem_of_left hy)))).of (c:=false) (by rw [any_encK,decide_eq_true hleft]; rfl)) ?_
  have htl:((ringSteps L).take pre.length).length≤6:=by rw [List.length_take,ringSteps_len]; exact Nat.le_trans (Nat.min_le_right _ _) (Nat.le_trans (Nat.pred_le_pred hl.2) (Nat.le_trans hn (Nat.le_succ 5)))
  have hwl:(iI (W ++ onward kinds s ((ringSteps L).take pre.length))).length≤sizeLine:=by
   rw [iI_len,List.length_append,sizeLine_eq]; unfold onward; rw [List.length_map]; exact Nat.le_trans (Nat.add_le_add hW htl) (by decide)
  refine ws_cons (wx_append rfl hwl ((v_bin (v_name rfl) (v_bin v_int (v_indexof rfl (sh_encKs r5) (v_name rfl) (sh_encK u5 w5) z1 (by rw [eqv_encK]; simp) z3 (by rw [List.length_map]; dict_keeps)) (bin_pow2 (by dict_keeps))) bin_addN) _ ⟨_,rfl,?_⟩))
  have ew:iI (W ++ onward kinds s ((ringSteps L).take pre.length)) ++ [PyData.int ((s + 2 ^ kinds.idxOf (u,w):Nat):Int)] = iI (W ++ onward kinds s ((ringSteps L).take (pre ++ [i]).length)):=by
   rw [List.length_append,List.length_singleton,hpi,List.take_add_one,hst]
   unfold iI onward
   simp
  rw [ew]
  exact ws_nil ⟨_,SubL.sub (ρ₁:=rhoR n kinds steps s (W ++ onward kinds s ((ringSteps L).take (pre ++ [i]).length)) F a L (nD L)) ⟨rfl,rfl,rfl,rfl,rfl,rfl,rfl,rfl,rfl,rfl,rfl,trivial⟩,rfl,rfl⟩
 ·rintro ρ₁ S₁ ⟨hρ,hS⟩
  subst hρ
  rw [List.length_range,List.take_of_length_le (by rw [ringSteps_len]; exact Nat.le_refl _)]
  refine ws_cons (wx_clear rfl (by rw [hnl,sizeLine_eq]; dict_keeps) ?_)
  exact ws_nil (ws_sub (SubL.sub (ρ₁:=rhoR n kinds steps s (W ++ onward kinds s (ringSteps L)) F a L []) ⟨rfl,rfl,rfl,rfl,rfl,rfl,rfl,rfl,rfl,rfl,rfl,trivial⟩) (k S₁ hS))
end
theorem ok_cyc:PyData.strOk ("nodes are in a cycle":Str) = true:=by decide +kernel
inductive Turned (n:Nat) (kinds steps:List (Nat×Nat)) (s:Nat) (W F:List Nat):List Nat→List Nat→Prop
 | skip (h:s∉W):Turned n kinds steps s W F W F
 | free (h:s∈W) (f:Finds (gE (kE (keptS kinds steps s))) (kN (List.range n)) [] none):Turned n kinds steps s W F W (F ++ [s])
 | ring (h:s∈W) (L:List Nat) (r:RingN n (keptS kinds steps s) L):Turned n kinds steps s W F (W ++ onward kinds s (ringSteps L)) F
section
variable {K:Kx} (H:Here K)
include H
theorem turn_some {m n s:Nat} {kinds steps:List (Nat×Nat)} {W F L:List Nat} {S:Cs} {Q:Fl→Rho→Cs→Prop} {a:Addr} (hk:Kinds n kinds steps) (h:HU (kN (List.range n)) (kE (keptS kinds steps s)) a S) (hf:Finds (gE (kE (keptS kinds steps s))) (kN (List.range n)) [] (some (kN L))) (R:RingN n (keptS kinds steps s) L) (hW:W.length≤100000)
  (q:∀ ρ' S',Sub (rhoK n kinds steps (W ++ onward kinds s (ringSteps L)) F) ρ'→Q .next ρ' S') :
  WS (m + 5) K (CR K) (scAt 156) ((("told":Str),.own (nD L)) :: rhoM n kinds steps s W F a) S (body5.drop 6) Q:=by
 have hn:=hk.n5
 have hV:(kN (List.range n)).length≤700:=by simp [kN]; dict_keeps
 have hl:=R.len
 have hnl:(nD L).length = L.length:=nD_len L
 have l5:∀ v∈L,v < 5:=fun v hv=>by have:=R.lt v hv; dict_keeps
 have nil:(nD L).isEmpty = false:=by
  obtain ⟨v,M,e⟩:=R.ends
  rw [e]; rfl
 refine s_assign (d:=.lst (nD L)) (v_ifexp (c:=false) (t_isnone_own rfl) (fun z=>by cases z) (fun o9=>VF.e (f_call (H.gl _ _ rfl) (rs_cons (r_own rfl) rs_nil) (cf_list (by rw [hnl,sizeLine_eq]; dict_keeps)) (.t _)))) ?_
 refine ws_sub (SubL.sub (ρ₁:=rhoR n kinds steps s W F a L (nD L)) ⟨rfl,rfl,rfl,rfl,rfl,rfl,rfl,rfl,rfl,rfl,rfl,trivial⟩) ?_
 refine turn_ring (m:=m) H hk R hW fun S' eS=>?_
 subst eS
 generalize W ++ onward kinds s (ringSteps L) = W' at q ⊢
 have ringE:∀ {n':Nat} {ρ:Rho} {S:Cs} {np lp p:Pos},ρ.lookup ("ring":Str) = some (.val (.lst (nD L)))→VT n' K (CR K) (scAt 156) ρ S (.Compare (.Name "ring" np) [.Eq] [.List [] lp] p) false:=fun hr =>
  (t_cmp (v_name hr).r (f_list (l:=[]) es_nil (Nat.zero_le _)).e.r (cmp_eq (.list (sh_nD l5)) (.list .nil)) (hm:=by with_unfolding_all rfl)).of (by rw [eqv_nilL,nil])
 refine ws_cons (wx_try (ws_cons (wx_ifRaise (wex_prepareR (n:=m) H rfl h hV hf fun S₁ hR=>?_))))
 rw [kN_d]
 have shC:ShAll 49 [PyData.str "nodes are in a cycle",.list (nD L)]:=.cons (.str ok_cyc) (.cons (.list (sh_nD l5)) .nil)
 have rfC:PyData.eqv (.tuple [PyData.str "nodes are in a cycle",.list (nD L)]) (.tuple [PyData.str "nodes are in a cycle",.list (nD L)]) = true:=eqvs_refl fun d hd=>by
  simp only [List.mem_cons,List.not_mem_nil,or_false] at hd
  rcases hd with rfl | rfl
  ·show (("nodes are in a cycle":Str) == "nodes are in a cycle") = true; simp
  ·exact eqv_lrefl nD_refl
 refine wh_as (H.gl _ _ rfl) (exmCC H) (s_skip ((t_or (ringE rfl) fun o9=>t_or ((t_cmp (v_argsOwn PySem.F.attrBase_ValueError (own55 H) rfl).r (v_tuple (l:=[.str "nodes are in a cycle",.list (nD L)]) (es_cons v_str (es_cons (v_name rfl) es_nil)) (two_le' _ _)).r (cmp_ne (.tuple shC) (.tuple shC))).of (c:=false) (by rw [rfC]; rfl)) fun o9=>t_or0).of rfl) (ws_nil ⟨rhoR n kinds steps s W' F a L [],SubL.sub ⟨rfl,rfl,rfl,rfl,rfl,rfl,rfl,rfl,rfl,rfl,rfl,trivial⟩,rfl,?_⟩))
 refine s_told (wt_cmp (WE.weak (we_findH (n:=m + 2) H rfl hR hV hf fun S₂ hR2=>?_)))
 show WR (m + 5) K (CR K) (scAt 156) (rhoR n kinds steps s W' F a L []) S₂ _ _
 have e:foundD (some (kN L)) = .lst (nD L):=by
  show D.lst ((kN L).map Ky.d) = _
  rw [kN_d]
 rw [e]
 refine (v_ifexp (c:=false) (d:=.lst (nD L)) (ringE rfl) (fun z=>by cases z) (fun o9=>v_name rfl)).r _ ⟨_,cmp_ne (.list (sh_nD l5)) (.list (sh_nD l5)),by rw [eqv_lrefl nD_refl]; rfl,?_⟩
 exact turn_table (m:=m) (s:=s) H hk hR2 rfl rfl rfl fun ρ' S₃ e=>q ρ' S₃ (sub_rhoK (ρ:=rhoR n kinds steps s W' F a L []) (SubL.sub ⟨rfl,rfl,rfl,rfl,rfl,trivial⟩) e)
theorem law_turn5 {m n s:Nat} {kinds steps:List (Nat×Nat)} {W F:List Nat} {S:Cs} {Q:Fl→Rho→Cs→Prop} (hk:Kinds n kinds steps) (hW:W.length≤100000) (hF:F.length≤300)
  (q:∀ W' F' ρ' S',Turned n kinds steps s W F W' F'→Sub (rhoK n kinds steps W' F') ρ'→Q .next ρ' S') :
  WS (m + 5) K (CR K) (scAt 156) ((("struck":Str),.val (.int (s:Int))) :: rhoK n kinds steps W F) S (match (bodyAt 156)[8]? with | some (Stmt.For _ _ b _ _)=>b | _=>[]) Q:=by
 refine s_if (b:=decide (s∈W)) ((t_cmp (v_name rfl).r (r_own rfl) (cmp_in .int sh_iI)).of (any_iI _ _)) (fun hb=>?_) (fun hb=>?_)
 ·have hb:=of_decide_eq_true hb
  refine turn_kept (m:=m) H hk (turn_sorter (m:=m) H hk fun a S₁ hU=>turn_told (m:=m) H hk hU (fun S₂ hU2 hf=>?_) (fun S₂ l hU2 hf=>?_))
  ·exact turn_none (m:=m) H hk hU2 hf hF fun ρ' S' hs=>ws_nil (q _ _ ρ' S' (.free hb hf) hs)
  ·obtain ⟨L,e,R⟩:=ring_nat (kept_rng (s:=s) hk) (hf.ring_ok l rfl)
   subst e
   rw [kN_d]
   exact turn_some (m:=m) H hk hU2 hf R hW fun ρ' S' hs=>ws_nil (q _ _ ρ' S' (.ring hb L R) hs)
 ·exact ws_nil (ws_nil (q _ _ _ _ (.skip (of_decide_eq_false hb)) (SubL.sub ⟨rfl,rfl,rfl,rfl,rfl,trivial⟩)))
end
noncomputable def insN (o:List Nat) (v k:Nat):List Nat:=o.take k ++ [v] ++ o.drop k
noncomputable def wider (os:List (List Nat)) (v:Nat):List (List Nat):=os.flatMap fun o=>(List.range (o.length + 1)).map fun k=>insN o v k
noncomputable def ordersN (l:List Nat):List (List Nat):=l.foldl wider [[]]
noncomputable def lsK (os:List (List Nat)):List PyData:=os.map fun o=>.list (nD o)
theorem wider_len {os:List (List Nat)} {v j:Nat} (h:∀ o∈os,o.length = j):(wider os v).length = os.length * (j + 1)∧∀ o∈wider os v,o.length = j + 1:=by
 unfold wider
 induction os with
 | nil=>exact ⟨by simp,fun o ho=>by cases ho⟩
 | cons o os ih =>
  obtain ⟨h1,h2⟩:=ih fun x hx=>h x (.tail _ hx)
  have ho:=h o (.head _)
  rw [List.flatMap_cons,List.length_append,List.length_map,List.length_range,h1,ho,List.length_cons,Nat.add_mul]
  refine ⟨by dict_keeps,fun x hx=>?_⟩
  rcases List.mem_append.mp hx with hx | hx
  ·obtain ⟨k,hk,rfl⟩:=List.mem_map.mp hx
   have:=List.mem_range.mp hk
   unfold insN
   simp only [List.length_append,List.length_take,List.length_drop,List.length_cons,List.length_nil]
   dict_keeps
  ·exact h2 x hx
theorem nD_inj {A B:List Nat} (h:A.map (fun v=>(nm v).d) = B.map (fun v=>(nm v).d)):A = B:=by
 induction A generalizing B with
 | nil=>cases B with
  | nil=>rfl
  | cons b B=>cases h
 | cons a A ih =>
  cases B with
  | nil=>cases h
  | cons b B =>
   rw [List.map_cons,List.map_cons] at h
   obtain ⟨h1,h2⟩:=List.cons.inj h
   rw [nm_inj (Ky.d_inj h1),ih h2]
theorem nD_dinj {A B:List Nat} (h:D.py (.list (nD A)) = .py (.list (nD B))):A = B:=nD_inj (PyData.list.inj (D.py.inj h))
theorem eI_inj {x y:Nat} (e:D.py (eI x) = .py (eI y)):x = y:=by
 have:=D.py.inj e
 injection this with z
 dict_keeps
noncomputable def leastN (D:List Nat):List Nat:=D.filter fun x=>D.all fun y=>!(!decide (y = x) && (decide (y &&& x = y) && true))
theorem none_left {α β:Type} (f:α→β) (q:α→Bool) (l:List α):((l.filter q).map f).isEmpty = l.all fun x=>!q x:=by
 rw [Bool.eq_iff_iff,List.isEmpty_iff,List.map_eq_nil_iff,List.filter_eq_nil_iff,List.all_eq_true]
 exact ⟨fun h x hx=>by simpa using h x hx,fun h x hx=>by simpa using h x hx⟩
theorem nats_of {l:List Nat} {l':List Int} (hp:l'.Pairwise (· < ·)) (hm:∀ x:Int,x∈l'↔x∈l.map fun v:Nat=>(v:Int)):∃ D:List Nat,l' = D.map (fun v:Nat=>(v:Int))∧D.Pairwise (· < ·)∧∀ x,x∈D↔x∈l:=by
 have key:l' = (l'.map Int.toNat).map fun v:Nat=>(v:Int):=by
  rw [List.map_map]
  conv=>lhs; rw [← List.map_id l']
  refine List.map_congr_left fun x hx=>?_
  obtain ⟨v,_,e⟩:=List.mem_map.mp ((hm x).mp hx)
  have:(v:Int) = x:=e
  show x = ((x.toNat:Nat):Int)
  dict_keeps
 refine ⟨l'.map Int.toNat,key,?_,fun x=>?_⟩
 ·rw [key] at hp
  rw [List.pairwise_map] at hp
  exact hp.imp fun h=>by dict_keeps
 ·constructor
  ·intro h
   obtain ⟨z,hz,e⟩:=List.mem_map.mp h
   obtain ⟨v,hv,e2⟩:=List.mem_map.mp ((hm z).mp hz)
   have:(v:Int) = z:=e2
   have:v = x:=by dict_keeps
   exact this ▸ hv
  ·intro h
   exact List.mem_map.mpr ⟨(x:Int),(hm _).mpr (List.mem_map.mpr ⟨x,h,rfl⟩),by dict_keeps⟩
noncomputable def rho146 (n:Nat) (os:List (List Nat)):Rho:=[(("orders":Str),.own (lsK os)),(("names":Str),.val (.lst (nD (List.range n))))]
section
variable {K:Kx} (H:Here K)
include H
theorem fn146:FnO K 146:=H.fo (by decide)
theorem fn151:FnO K 151:=H.fo (by decide)
theorem orders146 {m n:Nat} {S:Cs} (hn:n≤5) :
  WCall (m + 4) K (CR K) S (.ref 146) [.lst (nD (List.range n))] fun r S'=>S' = S∧r = .val (.lst (lsK (ordersN (List.range n))))∧(ordersN (List.range n)).length≤3125∧∀ o∈ordersN (List.range n),o.length = n:=by
 refine wcall_fn (ps:=["names"]) H (by decide) rfl rfl ?_ (by kernel_rfl) ?_
 ·intro qn
  refine len1 ?_
  intro v1
  kernel_rfl
 refine s_assignF (f_list (l:=[.list []]) (es_cons (VF.e (f_list (l:=[]) es_nil (Nat.zero_le _))) es_nil) (one_le _)) ?_
 refine s_for (List.range n) (fun v:Nat=>.py (nm v).d) (fun pre ρ' S'=>ρ' = rho146 n (ordersN pre)∧S' = S∧(ordersN pre).length≤5 ^ pre.length∧∀ o∈ordersN pre,o.length = pre.length) (i_lstM (v_name rfl)) ⟨_,SubL.sub (ρ₁:=rho146 n [[]]) ⟨rfl,rfl,trivial⟩,rfl,rfl,Nat.le_refl _,fun o ho=>by rw [List.mem_singleton.mp ho]⟩ ?_ ?_
 ·rintro pre v post ρ₁ S₁ e ⟨hρ,hS,hl,hj⟩
  subst hρ hS
  have hp:pre.length < n:=by
   have:=congrArg List.length e
   rw [List.length_range,List.length_append,List.length_cons] at this; dict_keeps
  have eo:ordersN (pre ++ [v]) = wider (ordersN pre) v:=by unfold ordersN; rw [List.foldl_append]; rfl
  have hv:v < n:=List.mem_range.mp (by rw [e]; simp)
  obtain ⟨w1,w2⟩:=wider_len (v:=v) hj
  generalize ordersN pre = os at *
  have h5:5 ^ pre.length≤5 ^ 4:=Nat.pow_le_pow_right (by decide) (by dict_keeps)
  have hwl:(wider os v).length≤5 ^ (pre.length + 1):=by
   rw [w1,Nat.pow_succ]
   exact Nat.mul_le_mul hl (by dict_keeps)
  have h6:5 ^ (pre.length + 1)≤5 ^ 5:=Nat.pow_le_pow_right (by decide) (by dict_keeps)
  have er:(os.flatMap fun o=>(List.range (o.length + 1)).flatMap fun k=>[PyData.list (nD (insN o v k))]) = lsK (wider os v):=by
   unfold lsK wider
   rw [List.map_flatMap]
   congr 1
   funext o
   rw [flat_one,List.map_map]; rfl
  refine ⟨_,_,asg_name (by kernel_rfl),asgok_name,?_⟩
  refine ws_cons (wx_assignC2 (hsw:=by intro env h1 h2; clear h2; cases env; cases h1; kernel_rfl) (fz:=.any) (l:=os) (enc:=fun o=>.py (.list (nD o))) (m:=fun o=>List.range (o.length + 1)) (enc2:=fun k:Nat=>.int (k:Int)) (g:=fun o k=>[PyData.list (nD (insN o v k))])
   (ρc:=[(("name":Str),.val (.py (nm v).d))]) (ρ1:=fun o=>(("order":Str),.val (.lst (nD o))) :: [(("name":Str),.val (.py (nm v).d))]) (ρ2:=fun o k=>(("k":Str),.val (.int (k:Int))) :: (("order":Str),.val (.lst (nD o))) :: [(("name":Str),.val (.py (nm v).d))])
   (wi_lst ((r_own rfl) _ ⟨_,rfl,rfl,by unfold lsK; rw [List.map_map]; rfl⟩)) ⟨⟨rfl,by kernel_rfl,trivial⟩,fun x y e=>nD_dinj e,fun x y e=>by cases e; rfl,fun o o9=>tgt_name (by kernel_rfl) (by kernel_rfl) rfl,
    fun o ho=>(i_range (b:=o.length + 1) (H.gl _ _ rfl) (v_bin (v_lenD' H (v_name rfl).r (nD_len o) (by have:=hj o ho; dict_keeps) (hn:=by kernel_rfl)) v_int bin_succ) (by have:=hj o ho; dict_keeps) (hk:=by kernel_rfl)) _ ⟨rfl,rfl⟩,fun o o9 k o9=>tgt_name (by kernel_rfl) (by kernel_rfl) rfl,fun o ho k hk=>?em,by rw [er]; unfold lsK; rw [List.length_map,sizeLine_eq]; exact Nat.le_trans hwl (Nat.le_trans h6 (by decide)),by intro o9 o9; rfl,by intro o9 o9; rfl⟩ ?_)
  case em =>
   have h1:=hj o ho
   have h4:o.length≤4:=Nat.le_of_lt_succ (Nat.lt_of_lt_of_le (h1 ▸ hp) hn)
   have sz:(nD o).length≤sizeLine:=by rw [nD_len,sizeLine_eq]; exact Nat.le_trans h4 (by decide)
   have e1:nD (insN o v k) = (nD o).take k ++ [(nm v).d] ++ (nD o).drop k:=by unfold insN nD; rw [List.map_append,List.map_append,List.map_take,List.map_drop]; rfl
   rw [e1]
   exact (f_add (f_add (f_to (v_name rfl).r (v_name rfl) sz).e.r (f_list (l:=[(nm v).d]) (es_cons (v_name rfl) es_nil) (one_le _)).e.r (by rw [List.length_take,nD_len,List.length_singleton,sizeLine_eq]; exact Nat.le_trans (Nat.add_le_add_right (Nat.le_trans (Nat.min_le_right _ _) h4) 1) (by decide))).e.r (f_from (v_name rfl).r (v_name rfl) sz).e.r (by rw [List.length_append,List.length_take,List.length_drop,nD_len,List.length_singleton,sizeLine_eq]; exact Nat.le_trans (Nat.add_le_add (Nat.add_le_add_right (Nat.le_trans (Nat.min_le_right _ _) h4) 1) (Nat.le_trans (Nat.sub_le _ _) h4)) (by decide))).e _ ⟨rfl,_,rfl,rfl⟩
  rw [er]
  exact ws_nil ⟨_,SubL.sub (ρ₁:=rho146 n (wider os v)) ⟨rfl,rfl,trivial⟩,by rw [eo],rfl,by rw [eo,List.length_append]; exact hwl,by rw [eo,List.length_append]; exact w2⟩
 ·rintro ρ₁ S₁ ⟨hρ,hS,hl,hj⟩
  subst hρ
  rw [List.length_range] at hl hj
  have h6:5 ^ n≤5 ^ 5:=Nat.pow_le_pow_right (by decide) (by dict_keeps)
  exact ws_freeze (x:="orders") rfl (s_return (v_name rfl) ⟨hS,rfl,Nat.le_trans hl h6,hj⟩)
theorem bin_andN {n a b:Nat}:Bin n K .BitAnd (.int (a:Int)) (.int (b:Int)) (.int ((a &&& b:Nat):Int)):=by
 have:=bin_and (n:=n) (K:=K) (a:=(a:Int)) (b:=(b:Int))
 have e:Builtin.bitAnd (a:Int) (b:Int) = ((a &&& b:Nat):Int):=by
  unfold Builtin.bitAnd
  rw [decide_eq_true (Int.natCast_nonneg a),decide_eq_true (Int.natCast_nonneg b)]
  rfl
 rwa [e] at this
theorem least151 {m:Nat} {S:Cs} {l:List Nat} (hl:l.length≤1000) :
  WCall (m + 4) K (CR K) S (.ref 151) [.lst (iI l)] fun r S'=>∃ D:List Nat,D.Pairwise (· < ·)∧(∀ x,x∈D↔x∈l)∧r = .val (.lst (iI (leastN D)))∧S' = S:=by
 refine wcall_fn (ps:=["sets"]) H (by decide) rfl rfl ?_ (by kernel_rfl) ?_
 ·intro qn
  refine len1 ?_
  intro v1
  kernel_rfl
 have ei:iI l = (l.map fun v:Nat=>(v:Int)).map PyData.int:=by unfold iI; rw [List.map_map]; rfl
 refine ws_cons (wx_assignF (wf_sortedset' (H.gl _ _ rfl) (H.gl _ _ rfl) ((v_name rfl).r _ ⟨l.map fun v:Nat=>(v:Int),by rw [ei],by rw [List.length_map]; exact hl,fun l' hp hm=>?_⟩)))
 obtain ⟨D,e,hD,mem⟩:=nats_of hp hm
 have hDl:D.length≤1000:=Nat.le_trans (nodup_le (hD.imp fun h=>by dict_keeps) fun x hx=>(mem x).mp hx) hl
 subst e
 have eD:(D.map fun v:Nat=>(v:Int)).map PyData.int = iI D:=by unfold iI; rw [List.map_map]; rfl
 rw [eD]
 refine ws_freeze (x:="kinds") rfl ?_
 refine s_return (VF.e (f_filter (l:=D) (enc:=fun v=>.py (eI v)) (f:=eI) (ρc:=[(("kinds":Str),.val (.lst (iI D)))]) (ρ':=fun v=>(("one":Str),.val (.int (v:Int))) :: [(("kinds":Str),.val (.lst (iI D)))])
  ⟨i_lstM (v_name rfl),⟨rfl,by kernel_rfl,trivial⟩,fun x y e=>eI_inj e,fun u o9=>tgt_name (by kernel_rfl) (by kernel_rfl) rfl,by rw [sizeLine_eq]; dict_keeps⟩
  (fun x=>D.all fun y=>!(!decide (y = x) && (decide (y &&& x = y) && true))) (fun x hx=>(t_cmp (f_filter (l:=D) (enc:=fun v=>.py (eI v)) (f:=eI) (ρc:=[(("one":Str),.val (.int (x:Int)))]) (ρ':=fun v=>(("less":Str),.val (.int (v:Int))) :: [(("one":Str),.val (.int (x:Int)))])
   ⟨i_lstM (v_name rfl),⟨rfl,by kernel_rfl,trivial⟩,fun x y e=>eI_inj e,fun u o9=>tgt_name (by kernel_rfl) (by kernel_rfl) rfl,by rw [sizeLine_eq]; dict_keeps⟩
   (fun y=>!decide (y = x) && (decide (y &&& x = y) && true)) (fun y o9=>t_and ((t_cmp (v_name rfl).r (v_name rfl).r (cmp_ne .int .int)).of (by rw [eqv_nat])) fun o9=>t_and ((t_cmp (v_bin (v_name rfl) (v_name rfl) (bin_andN H)).r (v_name rfl).r (cmp_eq .int .int)).of (eqv_nat _ _)) fun o9=>t_and0) (fun y o9 o9=>v_name rfl) (hsc:=by kernel_rfl)).e.r (f_list (l:=[]) es_nil (Nat.zero_le _)).e.r (cmp_eq (.list (.of fun d hd=>by obtain ⟨v,_,rfl⟩:=List.mem_map.mp hd; exact .int)) (.list .nil))).of (by rw [eqv_nilL,none_left]))
  (fun x o9 o9=>v_name rfl))) ⟨D,hD,mem,rfl,rfl⟩
end
noncomputable def Sb (a b:Nat):Prop:=a &&& b = a
theorem Sb.refl (a:Nat):Sb a a:=Nat.and_self a
theorem Sb.trans {a b c:Nat} (h:Sb a b) (h':Sb b c):Sb a c:=by
 unfold Sb at *
 rw [← h,Nat.and_assoc,h']
theorem Sb.anti {a b:Nat} (h:Sb a b) (h':Sb b a):a = b:=by
 unfold Sb at *
 rw [← h,Nat.and_comm]; exact h'
theorem Sb.le {a b:Nat} (h:Sb a b):a≤b:=by
 unfold Sb at h
 rw [← h]; exact Nat.and_le_right
theorem sb_iff {a b:Nat}:Sb a b↔∀ i,a.testBit i = true→b.testBit i = true:=by
 unfold Sb
 constructor
 ·intro h i hi
  rw [← h,Nat.testBit_and] at hi
  exact (Bool.and_eq_true_iff.mp hi).2
 ·intro h
  refine Nat.eq_of_testBit_eq fun i=>?_
  rw [Nat.testBit_and]
  cases e:a.testBit i with
  | false=>rfl
  | true=>rw [h i e]; rfl
theorem bit0 {a i:Nat}:a / 2 ^ i % 2 = 0↔a.testBit i = false:=by
 rw [Nat.testBit_eq_decide_div_mod_eq,decide_eq_false_iff_not]
 dict_keeps
theorem add_bit {w i:Nat} (h:w.testBit i = false) (j:Nat):(w + 2 ^ i).testBit j = (decide (j = i) || w.testBit j):=by
 rcases Nat.lt_trichotomy j i with q | q | q
 ·rw [Nat.add_comm,Nat.testBit_two_pow_add_gt q]
  simp [Nat.ne_of_lt q]
 ·subst q
  rw [Nat.add_comm,Nat.testBit_two_pow_add_eq,h]; simp
 ·have e:(w + 2 ^ i) / 2 ^ (i + 1) = w / 2 ^ (i + 1):=by
   have h0:=bit0.mpr h
   have p:=Nat.two_pow_pos i
   rw [Nat.pow_succ,← Nat.div_div_eq_div_mul,← Nat.div_div_eq_div_mul,Nat.add_div_right _ p]
   dict_keeps
  obtain ⟨d,rfl⟩:∃ d,j = i + 1 + d:=⟨j - (i + 1),(Nat.add_sub_cancel' q).symm⟩
  have t:∀ x:Nat,x.testBit (i + 1 + d) = (x / 2 ^ (i + 1)).testBit d:=fun x=>by rw [Nat.testBit_div_two_pow,Nat.add_comm]
  rw [t,t,e]
  have:¬ (i + 1 + d = i):=by dict_keeps
  simp [this]
theorem least_eq {P:Nat→Prop} {A B:List Nat} (hA:A.Pairwise (· < ·)) (hB:B.Pairwise (· < ·)) (a1:∀ x∈A,P x) (a2:∀ M,P M→∃ x∈A,Sb x M) (b1:∀ x∈B,P x) (b2:∀ M,P M→∃ x∈B,Sb x M):leastN A = leastN B:=by
 have mem:∀ {D:List Nat} {x:Nat},x∈leastN D↔x∈D∧∀ y∈D,Sb y x→y = x:=fun {D x}=>by
  unfold leastN Sb
  rw [List.mem_filter,List.all_eq_true]
  refine and_congr Iff.rfl ⟨fun h y hy e=>?_,fun h y hy=>?_⟩
  ·have:=h y hy
   simp only [Bool.and_true,Bool.not_and,Bool.not_not,Bool.or_eq_true,decide_eq_true_iff,Bool.not_eq_true',decide_eq_false_iff_not] at this
   exact this.resolve_right fun z=>z e
  ·simp only [Bool.and_true,Bool.not_and,Bool.not_not,Bool.or_eq_true,decide_eq_true_iff,Bool.not_eq_true',decide_eq_false_iff_not]
   by_cases q:y &&& x = y
   ·exact .inl (h y hy q)
   ·exact .inr q
 have half:∀ {A B:List Nat},(∀ x∈A,P x)→(∀ M,P M→∃ x∈A,Sb x M)→(∀ x∈B,P x)→(∀ M,P M→∃ x∈B,Sb x M)→∀ x∈leastN A,x∈leastN B:=fun {A B} a1 a2 b1 b2 x hx=>by
  obtain ⟨h1,h2⟩:=mem.mp hx
  obtain ⟨z,hz,e⟩:=b2 x (a1 x h1)
  obtain ⟨y,hy,e'⟩:=a2 z (b1 z hz)
  have:=h2 y hy (e'.trans e)
  subst this
  obtain rfl:=e.anti e'
  refine mem.mpr ⟨hz,fun u hu eu=>?_⟩
  obtain ⟨w,hw,ew⟩:=a2 u (b1 u hu)
  have:=h2 w hw (ew.trans eu)
  subst this
  exact eu.anti ew
 have sorted:∀ {A B:List Nat},A.Pairwise (· < ·)→B.Pairwise (· < ·)→(∀ x,x∈A↔x∈B)→A = B:=by
  intro A
  induction A with
  | nil =>
   intro B o9 o9 h
   cases B with
   | nil=>rfl
   | cons b B=>exact absurd ((h b).mpr (.head _)) (by simp)
  | cons a A ih =>
   intro B hA hB h
   cases B with
   | nil=>exact absurd ((h a).mp (.head _)) (by simp)
   | cons b B =>
    rw [List.pairwise_cons] at hA hB
    have e:a = b:=by
     rcases List.mem_cons.mp ((h a).mp (.head _)) with q | q
     ·exact q
     ·rcases List.mem_cons.mp ((h b).mpr (.head _)) with q' | q'
      ·exact q'.symm
      ·have:=hA.1 b q'; have:=hB.1 a q; dict_keeps
    subst e
    rw [ih hA.2 hB.2 fun x=>?_]
    constructor
    ·intro hx
     rcases List.mem_cons.mp ((h x).mp (.tail _ hx)) with q | q
     ·subst q; exact absurd (hA.1 x hx) (Nat.lt_irrefl _)
     ·exact q
    ·intro hx
     rcases List.mem_cons.mp ((h x).mpr (.tail _ hx)) with q | q
     ·subst q; exact absurd (hB.1 x hx) (Nat.lt_irrefl _)
     ·exact q
 exact sorted (hA.filter _) (hB.filter _) fun x=>⟨half a1 a2 b1 b2 x,half b1 b2 a1 a2 x⟩
theorem mem_wider {os:List (List Nat)} {v:Nat} {o:List Nat}:o∈wider os v↔∃ p∈os,∃ k,k < p.length + 1∧insN p v k = o:=by
 unfold wider
 simp only [List.mem_flatMap,List.mem_map,List.mem_range]
theorem ordersN_snoc (l:List Nat) (v:Nat):ordersN (l ++ [v]) = wider (ordersN l) v:=by unfold ordersN; rw [List.foldl_append]; rfl
theorem snoc_rec {P:List Nat→Prop} (h0:P []) (h1:∀ l v,P l→P (l ++ [v])) (l:List Nat):P l:=by
 have:∀ r:List Nat,P r.reverse:=fun r=>by
  induction r with
  | nil=>exact h0
  | cons v r ih=>rw [List.reverse_cons]; exact h1 _ _ ih
 have:=this l.reverse
 rwa [List.reverse_reverse] at this
theorem insN_perm (p:List Nat) (v k:Nat):(insN p v k).Perm (p ++ [v]):=by
 unfold insN
 have:=List.take_append_drop k p
 conv=>rhs; rw [← this]
 rw [List.append_assoc,List.append_assoc]
 exact (List.perm_append_comm).append_left _
theorem mem_orders:∀ l:List Nat,∀ o,o∈ordersN l↔o.Perm l:=by
 refine snoc_rec ?_ ?_
 ·intro o
  show o∈[[]]↔_
  rw [List.mem_singleton,List.perm_nil]
 ·intro l v ih o
  rw [ordersN_snoc,mem_wider]
  constructor
  ·rintro ⟨p,hp,k,_,rfl⟩
   exact (insN_perm p v k).trans (((ih p).mp hp).append_right _)
  ·intro h
   obtain ⟨A,B,e⟩:=List.append_of_mem (h.mem_iff.mpr (show v∈l ++ [v] by simp))
   refine ⟨A ++ B,(ih _).mpr ?_,A.length,by rw [List.length_append]; dict_keeps,?_⟩
   ·have h1:(v :: (A ++ B)).Perm (v :: l):=by
     refine (List.perm_middle.symm.trans ?_).trans (List.perm_append_comm (l₁:=l) (l₂:=[v]))
     rw [← e]; exact h
    exact h1.cons_inv
   ·unfold insN
    rw [e]; simp
noncomputable def sumP (p:Nat→Bool) (m:Nat):Nat:=(((List.range m).filter p).map fun k=>2 ^ k).sum
theorem sum_bits (p:Nat→Bool) (m:Nat):sumP p m < 2 ^ m∧∀ j,(sumP p m).testBit j = (decide (j < m) && p j):=by
 induction m with
 | zero=>exact ⟨by unfold sumP; simp,fun j=>by unfold sumP; simp⟩
 | succ m ih =>
  obtain ⟨h1,h2⟩:=ih
  have e:sumP p (m + 1) = sumP p m + if p m = true then 2 ^ m else 0:=by
   unfold sumP
   rw [List.range_succ,List.filter_append,List.map_append,List.sum_append]
   congr 1
   cases q:p m <;> simp [q]
  have hm:(sumP p m).testBit m = false:=by rw [h2]; simp
  rw [e,Nat.pow_succ]
  cases q:p m with
  | false =>
   rw [if_neg Bool.false_ne_true]
   refine ⟨by dict_keeps,fun j=>?_⟩
   rw [Nat.add_zero,h2]
   by_cases z:j = m
   ·subst z; simp [q]
   ·have:decide (j < m + 1) = decide (j < m):=decide_eq_decide.mpr (by dict_keeps)
    rw [this]
  | true =>
   rw [if_pos rfl]
   refine ⟨by dict_keeps,fun j=>?_⟩
   rw [add_bit hm,h2]
   by_cases z:j = m
   ·subst z; simp [q]
   ·have:decide (j < m + 1) = decide (j < m):=decide_eq_decide.mpr (by dict_keeps)
    rw [this]; simp [z]
noncomputable def backN (kinds:List (Nat×Nat)) (o:List Nat):Nat:=sumP (fun k=>decide (o.idxOf (kinds.getD k (0,0)).2≤o.idxOf (kinds.getD k (0,0)).1)) kinds.length
noncomputable def Breaks (n:Nat) (kinds:List (Nat×Nat)) (M:Nat):Prop:=M < 2 ^ kinds.length∧∃ o,o.Perm (List.range n)∧Sb (backN kinds o) M
theorem back_bit {kinds:List (Nat×Nat)} {o:List Nat} {i:Nat} {x:Nat×Nat} (h:kinds[i]? = some x):(backN kinds o).testBit i = decide (o.idxOf x.2≤o.idxOf x.1):=by
 unfold backN
 rw [(sum_bits _ _).2]
 have hi:=(List.getElem?_eq_some_iff.mp h).1
 rw [List.getD_eq_getElem?_getD,h]
 simp [hi]
theorem by_rank (f:Nat→Nat) (l:List Nat):∃ o:List Nat,o.Perm l∧o.Pairwise fun a b=>f b≤f a:=by
 refine ⟨l.mergeSort fun a b=>decide (f b≤f a),List.mergeSort_perm _ _,?_⟩
 have:=List.pairwise_mergeSort (le:=fun a b=>decide (f b≤f a)) (fun a b c h1 h2=>by
  simp only [decide_eq_true_iff] at *; dict_keeps) (fun a b=>by
  simp only [Bool.or_eq_true,decide_eq_true_iff]; dict_keeps) l
 exact this.imp fun h=>of_decide_eq_true h
theorem free_order {n:Nat} {kept:List (Nat×Nat)} (hr:∀ x∈kept,x.1 < n∧x.2 < n) (hf:Finds (gE (kE kept)) (kN (List.range n)) [] none):∃ o:List Nat,o.Perm (List.range n)∧∀ x∈kept,o.idxOf x.1 < o.idxOf x.2:=by
 obtain ⟨F,t,_,hV⟩:=hf.topo rfl .nil fun k=>Iff.rfl
 obtain ⟨o,hp,hs⟩:=by_rank (fun v=>F.findIdx (· == nm v)) (List.range n)
 refine ⟨o,hp,fun x hx=>?_⟩
 obtain ⟨r1,r2⟩:=hr x hx
 have m1:x.1∈o:=hp.mem_iff.mpr (List.mem_range.mpr r1)
 have m2:x.2∈o:=hp.mem_iff.mpr (List.mem_range.mpr r2)
 have lt:F.findIdx (· == nm x.2) < F.findIdx (· == nm x.1):=t.rank (nm x.1) (hV _ (mem_kN.mpr (List.mem_range.mpr r1))) (nm x.2) (mem_gE.mpr (List.mem_map.mpr ⟨x,hx,rfl⟩))
 have l1:=List.idxOf_lt_length_of_mem m1
 have l2:=List.idxOf_lt_length_of_mem m2
 rcases Nat.lt_trichotomy (o.idxOf x.1) (o.idxOf x.2) with q | q | q
 ·exact q
 ·have:x.1 = x.2:=by rw [← List.getElem_idxOf l1,← List.getElem_idxOf l2]; simp only [q]
  rw [this] at lt; exact absurd lt (Nat.lt_irrefl _)
 ·have:=List.pairwise_iff_getElem.mp hs _ _ l2 l1 q
  rw [List.getElem_idxOf,List.getElem_idxOf] at this
  grows_one
theorem ring_up {f:Nat→Nat}:∀ {L:List Nat} {v:Nat},(∀ x∈ringSteps (v :: L),f x.1 < f x.2)→∀ u∈L,f v < f u:=by
 intro L
 induction L with
 | nil=>intro v o9 u hu; cases hu
 | cons w L ih =>
  intro v h u hu
  have h1:f v < f w:=h (v,w) (.head _)
  rcases List.mem_cons.mp hu with rfl | hu
  ·exact h1
  ·exact Nat.lt_trans h1 (ih (fun x hx=>h x (.tail _ hx)) u hu)
theorem RingN.back {n:Nat} {kept:List (Nat×Nat)} {L:List Nat} (h:RingN n kept L) (f:Nat→Nat):∃ x∈ringSteps L,f x.2≤f x.1:=by
 refine Classical.byContradiction fun no=>?_
 obtain ⟨v,M,e⟩:=h.ends
 have up:∀ x∈ringSteps (v :: (M ++ [v])),f x.1 < f x.2:=fun x hx=>by
  refine Classical.byContradiction fun q=>no ⟨x,by rw [e]; exact hx,by dict_keeps⟩
 exact Nat.lt_irrefl _ (ring_up up v (by simp))
structure Inv5 (n:Nat) (kinds steps:List (Nat×Nat)) (k:Nat) (W F:List Nat):Prop where
 zero:0∈W
 free:∀ f∈F,f < k∧Finds (gE (kE (keptS kinds steps f))) (kN (List.range n)) [] none
 done:∀ w∈W,w < k→w∈F∨∃ L,RingN n (keptS kinds steps w) L∧∀ x∈ringSteps L,w + 2 ^ kinds.idxOf x∈W
 lenW:W.length≤1 + 6 * k
 lenF:F.length≤k
theorem Inv5.start {n:Nat} {kinds steps:List (Nat×Nat)}:Inv5 n kinds steps 0 [0] []:=⟨.head _,fun f hf=>(by cases hf),fun w o9 h=>absurd h (Nat.not_lt_zero _),Nat.le_refl _,Nat.le_refl _⟩
theorem Inv5.turn {n k:Nat} {kinds steps:List (Nat×Nat)} {W F W' F':List Nat} (hk:Kinds n kinds steps) (I:Inv5 n kinds steps k W F) (t:Turned n kinds steps k W F W' F'):Inv5 n kinds steps (k + 1) W' F':=by
 have hn:=hk.n5
 have old:∀ f∈F,f < k + 1∧Finds (gE (kE (keptS kinds steps f))) (kN (List.range n)) [] none:=fun f hf=>⟨Nat.lt_succ_of_lt (I.free f hf).1,(I.free f hf).2⟩
 have hw:=I.lenW
 have hf:=I.lenF
 cases t with
 | skip h =>
  refine ⟨I.zero,old,fun w hw hlt=>?_,by dict_keeps,by dict_keeps⟩
  have:w≠k:=fun z=>h (z ▸ hw)
  exact I.done w hw (by dict_keeps)
 | free h f =>
  refine ⟨I.zero,fun g hg=>?_,fun w hw hlt=>?_,by dict_keeps,by rw [List.length_append,List.length_singleton]; dict_keeps⟩
  ·rcases List.mem_append.mp hg with hg | hg
   ·exact old g hg
   ·rw [List.mem_singleton.mp hg]; exact ⟨Nat.lt_succ_self k,f⟩
  ·by_cases z:w = k
   ·subst z; exact .inl (by simp)
   ·rcases I.done w hw (by dict_keeps) with q | q
    ·exact .inl (List.mem_append_left _ q)
    ·exact .inr q
 | ring h L r =>
  have hl:=r.len
  refine ⟨List.mem_append_left _ I.zero,old,fun w hw hlt=>?_,?_,by dict_keeps⟩
  ·rcases List.mem_append.mp hw with hw | hw
   ·by_cases z:w = k
    ·subst z
     exact .inr ⟨L,r,fun x hx=>List.mem_append_right _ (List.mem_map.mpr ⟨x,hx,rfl⟩)⟩
    ·rcases I.done w hw (by dict_keeps) with q | ⟨L',r',q⟩
     ·exact .inl q
     ·exact .inr ⟨L',r',fun x hx=>List.mem_append_left _ (q x hx)⟩
   ·obtain ⟨x,_,e⟩:=List.mem_map.mp hw
    have:=Nat.two_pow_pos (kinds.idxOf x)
    dict_keeps
  ·rw [List.length_append]; unfold onward; rw [List.length_map,ringSteps_len]; exact Nat.le_trans (Nat.add_le_add hw (Nat.le_trans (Nat.pred_le_pred hl.2) (Nat.le_trans hn (Nat.le_succ 5)))) (Nat.le_of_eq (Nat.add_assoc 1 (6 * k) 6))
theorem Inv5.sound {n:Nat} {kinds steps:List (Nat×Nat)} {W F:List Nat} (hk:Kinds n kinds steps) (I:Inv5 n kinds steps (2 ^ kinds.length) W F):∀ f∈F,Breaks n kinds f:=fun f hf=>by
 obtain ⟨h1,h2⟩:=I.free f hf
 obtain ⟨o,hp,up⟩:=free_order (kept_rng hk) h2
 refine ⟨h1,o,hp,sb_iff.mpr fun i hi=>?_⟩
 by_cases hlt:i < kinds.length
 ·have e:kinds[i]? = some kinds[i]:=List.getElem?_eq_getElem hlt
  rw [back_bit e] at hi
  refine Classical.byContradiction fun q=>?_
  have hb:f.testBit i = false:=by simpa using q
  have hl:kinds[i]∈leftS kinds f:=mem_leftS.mpr ⟨i,hlt,rfl,bit0.mpr hb⟩
  have hkept:kinds[i]∈keptS kinds steps f:=List.mem_filter.mpr ⟨hk.sup _ (List.getElem_mem hlt),by simpa using hl⟩
  have:=up _ hkept
  have:=of_decide_eq_true hi
  dict_keeps
 ·unfold backN at hi
  rw [(sum_bits _ _).2] at hi
  simp [hlt] at hi
theorem Inv5.whole {n:Nat} {kinds steps:List (Nat×Nat)} {W F:List Nat} (hk:Kinds n kinds steps) (I:Inv5 n kinds steps (2 ^ kinds.length) W F) {M:Nat} (hM:Breaks n kinds M):∃ f∈F,Sb f M:=by
 obtain ⟨hlt,o,hp,hb⟩:=hM
 have go:∀ d w,w∈W→Sb w M→M - w≤d→∃ f∈F,Sb f M:=by
  intro d
  induction d with
  | zero =>
   intro w hw hs hd
   have hle:=hs.le
   rcases I.done w hw (by dict_keeps) with q | ⟨L,r,on⟩
   ·exact ⟨w,q,hs⟩
   ·exfalso
    have e:w = M:=by dict_keeps
    subst e
    obtain ⟨x,hx,hback⟩:=r.back (fun v=>o.idxOf v)
    have hkept:=r.steps x hx
    have hleft:x∈leftS kinds w:=by simpa using (List.mem_filter.mp hkept).2
    obtain ⟨i,hi,e,h0⟩:=mem_leftS.mp hleft
    have ei:kinds[i]? = some x:=by rw [List.getElem?_eq_getElem hi,e]
    have:=sb_iff.mp hb i (by rw [back_bit ei]; exact decide_eq_true hback)
    rw [bit0.mp h0] at this
    cases this
  | succ d ih =>
   intro w hw hs hd
   have hle:=hs.le
   rcases I.done w hw (by dict_keeps) with q | ⟨L,r,on⟩
   ·exact ⟨w,q,hs⟩
   ·obtain ⟨x,hx,hback⟩:=r.back (fun v=>o.idxOf v)
    have hkept:=r.steps x hx
    have hleft:x∈leftS kinds w:=by simpa using (List.mem_filter.mp hkept).2
    obtain ⟨i,hi,e,h0⟩:=mem_leftS.mp hleft
    have ei:kinds[i]? = some x:=by rw [List.getElem?_eq_getElem hi,e]
    have hMi:=sb_iff.mp hb i (by rw [back_bit ei]; exact decide_eq_true hback)
    have hidx:kinds.idxOf x = i:=by
     have hm:x∈kinds:=mem_of_left hleft
     have l1:=List.idxOf_lt_length_of_mem hm
     exact (List.getElem_inj (h₀:=l1) (h₁:=hi) hk.nd).mp (by rw [List.getElem_idxOf,e])
    have hon:=on x hx
    rw [hidx] at hon
    have hp2:=Nat.two_pow_pos i
    refine ih _ hon (sb_iff.mpr fun j hj=>?_) (Nat.le_trans (Nat.le_of_eq (Nat.sub_add_eq _ _ _)) (Nat.le_trans (Nat.sub_le_sub_left hp2 _) (Nat.pred_le_pred hd)))
    rw [add_bit (bit0.mp h0)] at hj
    by_cases z:j = i
    ·subst z; exact hMi
    ·simp only [z,decide_false,Bool.false_or] at hj
     exact sb_iff.mp hs j hj
 exact go M 0 I.zero (by unfold Sb; exact Nat.zero_and M) (Nat.sub_le _ _)
theorem mod_nat (x:Int) {n:Nat} (h:0 < n):∃ t:Nat,x % (n:Int) = (t:Int)∧t < n:=by
 have h1:=Int.emod_nonneg x (b:=(n:Int)) (by dict_keeps)
 have h2:=Int.emod_lt_of_pos x (b:=(n:Int)) (by dict_keeps)
 exact ⟨(x % (n:Int)).toNat,by dict_keeps,by dict_keeps⟩
structure Steps (n:Nat) (j:Nat) (kinds steps:List (Nat×Nat)):Prop where
 rng:∀ s∈kinds,s.1 < n∧s.2 < n
 nd:kinds.Nodup
 few:kinds.length≤8
 sub:∀ s∈steps,s∈kinds
 sup:∀ s∈kinds,s∈steps
 len:steps.length≤j
noncomputable def rho5 (n:Nat) (kinds steps:List (Nat×Nat)):Rho:=[(("kinds":Str),.own (kinds.map encK)),(("steps":Str),.own (steps.map encK)),(("names":Str),.val (.lst (nD (List.range n)))),(("size":Str),.val (.int (n:Int)))]
section
variable {K:Kx} (H:Here K)
include H
theorem read_turn5 {m n j:Nat} {x:Int} {kinds steps:List (Nat×Nat)} {S:Cs} {Q:Fl→Rho→Cs→Prop} (h2:2≤n) (h5:n≤5) (hj:j≤1000) (h:Steps n j kinds steps)
  (q:∀ kinds' steps' ρ',Steps n (j + 1) kinds' steps'→Sub (rho5 n kinds' steps') ρ'→Q .next ρ' S) :
  WS (m + 5) K (CR K) (scAt 156) ((("x":Str),.val (.int x)) :: rho5 n kinds steps) S (match (bodyAt 156)[5]? with | some (Stmt.For _ _ b _ _)=>b | _=>[]) Q:=by
 have hnl:(nD (List.range n)).length = n:=by rw [nD_len,List.length_range]
 obtain ⟨u,eu,hu⟩:=mod_nat x (n:=n) (by grows_one)
 obtain ⟨v,ev,hv⟩:=mod_nat (x / n) (n:=n) (by grows_one)
 have at':∀ w,w < n→(nD (List.range n))[w]? = some (nm w).d:=fun w hw=>nD_at (List.getElem?_range hw)
 refine s_assign (d:=.py (encK (u,v))) (v_tuple (l:=[(nm u).d,(nm v).d]) (es_cons (v_at (k:=u) (v_name rfl).r (VE.of (v_bin (v_name rfl) (v_name rfl) (bin_mod (by grows_one))) (by rw [eu])) (at' u hu) (by rw [hnl]; grows_one)) (es_cons (v_at (k:=v) (v_name rfl).r (VE.of (v_bin (v_bin (v_name rfl) (v_name rfl) (bin_div (by grows_one) (by grows_one))) (v_name rfl) (bin_mod (by grows_one))) (by rw [ev])) (at' v hv) (by rw [hnl]; grows_one)) es_nil)) (two_le' _ _)) ?_
 have u5:u < 5:=by grows_one
 have v5:v < 5:=by grows_one
 have r5:∀ x∈kinds,x.1 < 5∧x.2 < 5:=fun x hx=>⟨by have:=(h.rng x hx).1; grows_one,by have:=(h.rng x hx).2; grows_one⟩
 have hkl:=h.few
 have hsl:=h.len
 have hkm:(kinds.map encK).length = kinds.length:=List.length_map ..
 have el:∀ (l:List (Nat×Nat)),l.map encK ++ [encK (u,v)] = (l ++ [(u,v)]).map encK:=fun l=>by rw [List.map_append]; rfl
 have rest:∀ (kinds':List (Nat×Nat)) (ρ':Rho),Sub ((("step":Str),.val (.py (encK (u,v)))) :: rho5 n kinds' steps) ρ'→(∀ s∈kinds',s.1 < n∧s.2 < n)→kinds'.Nodup→kinds'.length≤8→(∀ s∈steps,s∈kinds')→(∀ s∈kinds',s∈steps∨s = (u,v)) →
   WS (m + 5) K (CR K) (scAt 156) ρ' S (List.drop 2 (match (bodyAt 156)[5]? with | some (Stmt.For _ _ b _ _)=>b | _=>[])) Q:=fun kinds' ρ' hs g1 g2 g3 g4 g5=>by
  have r5':∀ x∈kinds',x.1 < 5∧x.2 < 5:=fun x hx=>⟨by have:=(g1 x hx).1; grows_one,by have:=(g1 x hx).2; grows_one⟩
  refine ws_sub hs (s_if (b:=decide ((u,v)∈kinds')) ((t_cmp (v_name rfl).r (r_own rfl) (cmp_in (sh_encK u5 v5) (sh_encKs r5'))).of (any_encK _ _)) (fun hb=>?_) (fun hb=>?_))
  ·have hb:=of_decide_eq_true hb
   refine ws_cons (wx_append rfl (by rw [List.length_map,sizeLine_eq]; grows_one) ((v_name rfl) _ ⟨_,rfl,?_⟩))
   rw [el]
   refine ws_nil (ws_nil (q kinds' (steps ++ [(u,v)]) _ ⟨g1,g2,g3,fun s hs=>?_,fun s hs=>?_,by rw [List.length_append,List.length_singleton]; grows_one⟩ (SubL.sub ⟨rfl,rfl,rfl,rfl,trivial⟩)))
   ·rcases List.mem_append.mp hs with z | z
    ·exact g4 s z
    ·rw [List.mem_singleton.mp z]; exact hb
   ·rcases g5 s hs with z | z
    ·exact List.mem_append_left _ z
    ·rw [z]; simp
  ·have hb:=of_decide_eq_false hb
   refine ws_nil (ws_nil (q kinds' steps _ ⟨g1,g2,g3,g4,fun s hs=>?_,by grows_one⟩ (SubL.sub ⟨rfl,rfl,rfl,rfl,trivial⟩)))
   exact (g5 s hs).resolve_right fun z=>hb (z ▸ hs)
 refine s_if (b:=!decide ((u,v)∈kinds) && (decide ((kinds.length:Int) < 8) && true)) (t_and ((t_cmp (v_name rfl).r (r_own rfl) (cmp_notin (sh_encK u5 v5) (sh_encKs r5))).of (by rw [any_encK])) fun o9=>t_and (t_cmp (v_lenD' H (r_own rfl) hkm (by grows_one)).r v_int.r cmp_lt) fun o9=>t_and0) (fun hb=>?_) (fun hb=>?_)
 ·have hb:(u,v)∉kinds∧kinds.length < 8:=by
   simp only [Bool.and_true,Bool.and_eq_true,Bool.not_eq_true',decide_eq_false_iff_not,decide_eq_true_iff] at hb
   exact ⟨hb.1,by grows_one⟩
  refine ws_cons (wx_append rfl (by rw [hkm,sizeLine_eq]; grows_one) ((v_name rfl) _ ⟨_,rfl,?_⟩))
  rw [el]
  refine ws_nil (rest (kinds ++ [(u,v)]) _ (SubL.sub ⟨rfl,rfl,rfl,rfl,rfl,trivial⟩) (fun s hs=>?_) ?_ (by rw [List.length_append,List.length_singleton]; grows_one) (fun s hs=>List.mem_append_left _ (h.sub s hs)) fun s hs=>?_)
  ·rcases List.mem_append.mp hs with z | z
   ·exact h.rng s z
   ·rw [List.mem_singleton.mp z]; exact ⟨hu,hv⟩
  ·exact List.nodup_append.mpr ⟨h.nd,by simp,fun a ha b hb'=>by rw [List.mem_singleton.mp hb']; exact fun z=>hb.1 (z ▸ ha)⟩
  ·rcases List.mem_append.mp hs with z | z
   ·exact .inl (h.sup s z)
   ·exact .inr (List.mem_singleton.mp z)
 ·exact ws_nil (rest kinds _ (SubL.sub ⟨rfl,rfl,rfl,rfl,rfl,trivial⟩) h.rng h.nd h.few h.sub fun s hs=>.inl (h.sup s hs))
end
theorem idx_order {o:List Nat} {v:Nat} (h:v∈o):(nD o)[o.idxOf v]? = some (nm v).d∧∀ m u,m < o.idxOf v→(nD o)[m]? = some u→PyData.eqv u (nm v).d = false:=by
 have h1:o.idxOf v < o.length:=List.idxOf_lt_length_of_mem h
 refine ⟨nD_at (by rw [List.getElem?_eq_getElem h1,List.getElem_idxOf h1]),fun m u hm hu=>?_⟩
 unfold nD at hu
 rw [List.getElem?_map,List.getElem?_eq_getElem (by dict_keeps)] at hu
 obtain rfl:=Option.some.inj hu
 rw [eqv_ky]
 refine decide_eq_false fun e=>?_
 have:=List.not_of_lt_findIdx (p:=(· == v)) (xs:=o) (i:=m) hm
 have e:=nm_inj e
 simp [e] at this
theorem sum_cast (l:List Nat):(l.map fun v:Nat=>(v:Int)).sum = ((l.sum:Nat):Int):=by
 induction l with
 | nil=>rfl
 | cons v l ih=>rw [List.map_cons,List.sum_cons,ih,List.sum_cons]; dict_keeps
noncomputable def rho10 (n:Nat) (kinds:List (Nat×Nat)) (F B:List Nat):Rho:=[(("backs":Str),.own (iI B)),(("free":Str),.val (.lst (iI F))),(("names":Str),.val (.lst (nD (List.range n)))),(("kinds":Str),.val (.lst (kinds.map encK)))]
noncomputable def placeD (o:List Nat) (x:Nat×Nat):PyData:=.tuple [.int (o.idxOf x.1:Nat),.int (o.idxOf x.2:Nat)]
section
variable {K:Kx} (H:Here K)
include H
theorem order_turn {m n:Nat} {kinds steps:List (Nat×Nat)} {F B o:List Nat} {S:Cs} {Q:Fl→Rho→Cs→Prop} (hk:Kinds n kinds steps) (hp:o.Perm (List.range n)) (hB:B.length≤10000)
  (q:∀ ρ',Sub (rho10 n kinds F (B ++ [backN kinds o])) ρ'→Q .next ρ' S) :
  WS (m + 5) K (CR K) (scAt 156) ((("order":Str),.val (.lst (nD o))) :: rho10 n kinds F B) S (match (bodyAt 156)[10]? with | some (Stmt.For _ _ b _ _)=>b | _=>[]) Q:=by
 have hn:=hk.n5
 have hkl:=hk.few
 have hol:o.length = n:=by rw [hp.length_eq,List.length_range]
 have inO:∀ x∈kinds,x.1∈o∧x.2∈o:=fun x hx=>⟨hp.mem_iff.mpr (List.mem_range.mpr (hk.rng x hx).1),hp.mem_iff.mpr (List.mem_range.mpr (hk.rng x hx).2)⟩
 have r5:∀ x∈kinds,x.1 < 5∧x.2 < 5:=fun x hx=>⟨by have:=(hk.rng x hx).1; dict_keeps,by have:=(hk.rng x hx).2; dict_keeps⟩
 have o5:∀ v∈o,v < 5:=fun v hv=>by have:=List.mem_range.mp (hp.mem_iff.mp hv); dict_keeps
 have hpm:(kinds.map (placeD o)).length = kinds.length:=List.length_map ..
 have hkm:(kinds.map encK).length = kinds.length:=List.length_map ..
 refine s_assignC (hs:=by intro env h; cases env; cases h; kernel_rfl) (ds:=kinds.map (placeD o)) (f_map (l:=kinds) (enc:=fun x=>.py (encK x)) (f:=placeD o) (ρc:=[(("order":Str),.val (.lst (nD o)))]) (ρ':=fun x=>(("end":Str),.val (.py (nm x.2).d)) :: (("start":Str),.val (.py (nm x.1).d)) :: [(("order":Str),.val (.lst (nD o)))])
  ⟨i_lstM (v_name rfl),⟨rfl,by kernel_rfl,trivial⟩,encK_inj,fun u o9=>tgt_pair (by kernel_rfl) (by kernel_rfl) (by kernel_rfl) (by kernel_rfl) rfl rfl,by rw [sizeLine_eq]; dict_keeps⟩
  fun x hx=>v_tuple (l:=[.int (o.idxOf x.1:Nat),.int (o.idxOf x.2:Nat)]) (es_cons (v_indexof rfl (sh_nD o5) (v_name rfl) (nm_sh (r5 x hx).1) (idx_order (inO x hx).1).1 nm_refl (idx_order (inO x hx).1).2 (by rw [nD_len]; dict_keeps)) (es_cons (v_indexof rfl (sh_nD o5) (v_name rfl) (nm_sh (r5 x hx).2) (idx_order (inO x hx).2).1 nm_refl (idx_order (inO x hx).2).2 (by rw [nD_len]; dict_keeps)) es_nil)) (two_le' _ _)) ?_
 refine ws_freeze (x:="places") rfl ?_
 have at':∀ k,k < kinds.length→(kinds.map (placeD o))[k]? = some (placeD o (kinds.getD k (0,0))):=fun k hk8=>by rw [List.getElem?_map,List.getD_eq_getElem?_getD,List.getElem?_eq_getElem hk8]; rfl
 refine ws_cons (wx_append rfl (by rw [iI_len,sizeLine_eq]; dict_keeps) ((v_call (H.gl _ _ rfl) (rs_cons (VE.r (VE.of (VF.e (f_filter (l:=List.range kinds.length) (enc:=fun k:Nat=>.int (k:Int)) (f:=fun k=>eI (2 ^ k)) (ρc:=[(("places":Str),.val (.lst (kinds.map (placeD o))))]) (ρ':=fun k=>(("k":Str),.val (.int (k:Int))) :: [(("places":Str),.val (.lst (kinds.map (placeD o))))])
  ⟨i_range (H.gl _ _ rfl) (v_lenD' H (v_name rfl).r hkm (by dict_keeps)) (by dict_keeps),⟨rfl,by kernel_rfl,trivial⟩,fun x y e=>by cases e; rfl,fun u o9=>tgt_name (by kernel_rfl) (by kernel_rfl) rfl,by rw [List.length_range,sizeLine_eq]; dict_keeps⟩
  (fun k=>decide (o.idxOf (kinds.getD k (0,0)).2≤o.idxOf (kinds.getD k (0,0)).1)) (fun k hk'=>by
   have hk8:=List.mem_range.mp hk'
   have pl:∀ {ρ:Rho} {sc:Scope} {i:Nat} {np ip p:Pos} {kc:Nat},ρ.lookup ("places":Str) = some (.val (.lst (kinds.map (placeD o))))→ρ.lookup ("k":Str) = some (.val (.int (k:Int)))→VE (m + 5) K (CR K) sc ρ S (.Subscript (.Name "places" np) (.Name "k" ip) p) (.tup [.int (o.idxOf (kinds.getD k (0,0)).1:Nat),.int (o.idxOf (kinds.getD k (0,0)).2:Nat)]):=fun h1 h2=>v_at (v_name h1).r (v_name h2) (at' k hk8) (by rw [hpm]; dict_keeps)
   exact (t_cmp (v_atT (k:=0) (x:=.int (o.idxOf (kinds.getD k (0,0)).1:Nat)) (pl (i:=0) (kc:=0) rfl rfl) (VE.of v_int rfl) rfl (by show 2 < _; decide)).r (v_atT (k:=1) (x:=.int (o.idxOf (kinds.getD k (0,0)).2:Nat)) (pl (i:=0) (kc:=0) rfl rfl) (VE.of v_int rfl) rfl (by show 2 < _; decide)).r cmp_ge).of (decide_eq_decide.mpr (by dict_keeps))) (fun k hk' o9=>by
   have hk8:=List.mem_range.mp hk'
   exact v_bin v_int (v_name rfl) (bin_pow2 (by dict_keeps))))) (d':=.lst ((((List.range kinds.length).filter fun k=>decide (o.idxOf (kinds.getD k (0,0)).2≤o.idxOf (kinds.getD k (0,0)).1)).map fun k=>((2 ^ k:Nat):Int)).map PyData.int)) (by rw [List.map_map]; rfl))) rs_nil) cv_sum (.b _)) _ ⟨_,rfl,?_⟩))
 have eb:(((List.range kinds.length).filter fun k=>decide (o.idxOf (kinds.getD k (0,0)).2≤o.idxOf (kinds.getD k (0,0)).1)).map fun k=>((2 ^ k:Nat):Int)).sum = ((backN kinds o:Nat):Int):=by
  unfold backN sumP
  rw [← sum_cast,List.map_map]; rfl
 rw [eb]
 refine ws_nil (q _ (SubL.sub ⟨?_,rfl,rfl,rfl,trivial⟩))
 unfold iI
 rw [List.map_append]; rfl
end
theorem iI_refl {l:List Nat}:∀ d∈iI l,PyData.eqv d d = true:=fun d hd=>by obtain ⟨v,_,rfl⟩:=List.mem_map.mp hd; exact int_refl
theorem bin_mulN {m a b:Nat} {K:Kx} (ha:a≤5):Bin m K .Mult (.int (a:Int)) (.int (b:Int)) (.int ((a * b:Nat):Int)):=by
 have:=bin_mul (n:=m) (K:=K) (a:=(a:Int)) (b:=(b:Int)) (.of_left (by
  have:a = 0∨a = 1∨a = 2∨a = 3∨a = 4∨a = 5:=by dict_keeps
  rcases this with rfl | rfl | rfl | rfl | rfl | rfl <;> decide))
 rwa [← Int.natCast_mul] at this
inductive StepsJ (n:Nat) (S:Cs) (pre:List Int) (ρ':Rho) (S':Cs):Prop
 | mk (kinds steps:List (Nat×Nat)) (hρ:ρ' = rho5 n kinds steps) (hS:S' = S) (st:Steps n pre.length kinds steps)
inductive LoopJ (n:Nat) (kinds steps:List (Nat×Nat)) (pre:List Nat) (ρ':Rho) (S':Cs):Prop
 | mk (W F:List Nat) (hρ:ρ' = rhoK n kinds steps W F) (I:Inv5 n kinds steps pre.length W F)
theorem ordersN_len {n:Nat} (hn:n≤5):(ordersN (List.range n)).length≤1000:=by
 have:n = 0∨n = 1∨n = 2∨n = 3∨n = 4∨n = 5:=by dict_keeps
 rcases this with rfl | rfl | rfl | rfl | rfl | rfl <;> decide +kernel
section
variable {K:Kx} (H:Here K)
include H
theorem law_end5 {m n:Nat} {kinds steps:List (Nat×Nat)} {W F:List Nat} {S:Cs} (hk:Kinds n kinds steps) (I:Inv5 n kinds steps (2 ^ kinds.length) W F) :
  WS (m + 5) K (CR K) (scAt 156) (rhoK n kinds steps W F) S ((bodyAt 156).drop 9) (retOf fun r S'=>r = .val (.bool true)):=by
 have hn:=hk.n5
 have h256:2 ^ kinds.length≤2 ^ 8:=Nat.pow_le_pow_right (by decide) hk.few
 have hFl:F.length≤256:=Nat.le_trans I.lenF h256
 refine ws_freeze (x:="free") rfl ?_
 refine s_assignF (f_list (l:=[]) es_nil (Nat.zero_le _)) ?_
 refine s_for (ordersN (List.range n)) (fun o=>.py (.list (nD o))) (fun pre ρ' S'=>ρ' = rho10 n kinds F (pre.map (backN kinds))) (i_lstM (f:=fun o=>.list (nD o)) (fun Q q=>by
  refine we_ucall (H.gl _ _ rfl) (fn146 H) ((es_cons (v_name rfl) es_nil) _ ((orders146 (m:=m + 1) H hn).mono fun r S' hp=>?_))
  obtain ⟨e1,e2,_⟩:=hp
  subst e1 e2
  exact q)) ⟨_,SubL.sub (ρ₁:=rho10 n kinds F []) ⟨rfl,rfl,rfl,rfl,trivial⟩,rfl⟩ ?_ ?_
 ·rintro pre o post ρ₁ S₁ e hρ
  subst hρ
  have hp:o.Perm (List.range n):=(mem_orders _ _).mp (by rw [e]; simp)
  refine ⟨_,_,asg_name (by kernel_rfl),asgok_name,?_⟩
  refine order_turn (m:=m) H hk hp (by
   rw [List.length_map]
   have:=congrArg List.length e
   rw [List.length_append] at this
   have:=(ordersN_len (n:=n) hn)
   dict_keeps) fun ρ' hs=>⟨_,hs,by rw [List.map_append]; rfl⟩
 ·rintro ρ₁ S₁ hρ
  subst hρ
  have hbl:((ordersN (List.range n)).map (backN kinds)).length≤1000:=by rw [List.length_map]; exact ordersN_len hn
  refine ws_freeze (x:="backs") rfl ?_
  refine ws_cons (wx_return (we_cmp (WE.weak (we_ucall (H.gl _ _ rfl) (fn151 H) ((es_cons (v_name rfl) es_nil) _ ((least151 (m:=m + 1) H (l:=F) (by dict_keeps)).mono fun r S' hp=>?_))))))
  obtain ⟨A,hA,mA,e1,e2⟩:=hp
  subst e1 e2
  refine WE.weak (we_ucall (H.gl _ _ rfl) (fn151 H) ((es_cons (v_name rfl) es_nil) _ ((least151 (m:=m + 1) H hbl).mono fun r S' hp=>?_)))
  obtain ⟨B,hB,mB,e1,e2⟩:=hp
  subst e1 e2
  have eq:leastN A = leastN B:=least_eq (P:=Breaks n kinds) hA hB (fun x hx=>I.sound hk x ((mA x).mp hx)) (fun M hM=>by
   obtain ⟨f,hf,hs⟩:=I.whole hk hM
   exact ⟨f,(mA f).mpr hf,hs⟩) (fun x hx=>by
   obtain ⟨o,ho,e⟩:=List.mem_map.mp ((mB x).mp hx)
   subst e
   exact ⟨(sum_bits _ _).1,o,(mem_orders _ _).mp ho,.refl _⟩) (fun M hM=>by
   obtain ⟨_,o,hp,hs⟩:=hM
   exact ⟨backN kinds o,(mB _).mpr (List.mem_map.mpr ⟨o,(mem_orders _ _).mpr hp,rfl⟩),hs⟩)
  rw [eq]
  exact ⟨_,cmp_eq (.list sh_iI) (.list sh_iI),by rw [eqv_lrefl iI_refl]; rfl⟩
theorem law156 {m:Nat} {S:Cs} {l:List Int} (hl:l.length≤63) :
  WCall (m + 6) K (CR K) S (.ref 156) [.lst (l.map PyData.int)] fun r S'=>r = .val (.bool true):=by
 refine wcall_fn (ps:=["script"]) H (by decide) rfl rfl ?_ (by kernel_rfl) ?_
 ·intro qn
  refine len1 ?_
  intro v1
  kernel_rfl
 obtain ⟨n,en,h2,h5⟩:∃ n:Nat,2 + (l.sum + 1) % 4 = (n:Int)∧2≤n∧n≤5:=⟨(2 + (l.sum + 1) % 4).toNat,by dict_keeps,by dict_keeps,by dict_keeps⟩
 refine s_assignF (ds:=nD (List.range n)) (by
  rw [← nD_names h5]
  exact f_to (b:=n) (VF.e (f_list (l:=[.int 0,.str "0",.int (-1),.str "",.int 7]) (es_cons v_int (es_cons v_str (es_cons (v_neg v_int) (es_cons v_str (es_cons v_int es_nil))))) (by rw [sizeLine_eq]; show 5≤_; decide))).r (VE.of (v_bin v_int (v_bin (v_bin (v_call (H.gl _ _ rfl) (rs_cons (v_name rfl).r rs_nil) cv_sum (.b _)) v_int bin_add) v_int (bin_mod (by decide))) bin_add) (by rw [en])) (by rw [sizeLine_eq]; show 5≤_; decide)) ?_
 clear en
 refine ws_freeze (x:="names") rfl ?_
 have hnl:(nD (List.range n)).length = n:=by rw [nD_len,List.length_range]
 refine s_assign (v_lenD' H (v_name rfl).r hnl (by dict_keeps)) ?_
 refine s_map (hsw:=by intro env h1 h2; clear h2; cases env; cases h1; kernel_rfl) (x:="around") (l:=List.range n) (enc:=fun k:Nat=>.int (k:Int)) (f:=fun k=>.int ((k + n * ((k + 1) % n):Nat):Int)) (ρc:=[(("size":Str),.val (.int (n:Int)))]) (ρ':=fun k=>(("k":Str),.val (.int (k:Int))) :: [(("size":Str),.val (.int (n:Int)))])
  ⟨i_range (H.gl _ _ rfl) (v_name rfl) (by dict_keeps),⟨rfl,by kernel_rfl,trivial⟩,fun x y e=>by cases e; rfl,fun u o9=>tgt_name (by kernel_rfl) (by kernel_rfl) rfl,by rw [List.length_range,sizeLine_eq]; dict_keeps⟩
  (fun k hk=>v_bin (v_name rfl) (v_bin (v_name rfl) (v_bin (v_bin (v_name rfl) v_int bin_succ) (v_name rfl) (bin_modN (by dict_keeps))) (bin_mulN h5)) bin_addN) ?_
 have ea:(List.range n).map (fun k=>PyData.int ((k + n * ((k + 1) % n):Nat):Int)) = ((List.range n).map fun k=>((k + n * ((k + 1) % n):Nat):Int)).map PyData.int:=by rw [List.map_map]; rfl
 rw [ea]
 have hal:((List.range n).map fun k=>((k + n * ((k + 1) % n):Nat):Int)).length = n:=by rw [List.length_map,List.length_range]
 generalize ((List.range n).map fun k=>((k + n * ((k + 1) % n):Nat):Int)) = ar at hal ⊢
 refine s_assignF (f_list (l:=[]) es_nil (Nat.zero_le _)) ?_
 refine s_assignF (f_list (l:=[]) es_nil (Nat.zero_le _)) ?_
 refine s_for (l ++ [1] ++ ar) (fun x=>.py (.int x)) (StepsJ n S) (i_lstM (f:=PyData.int) (VE.of (f_add (f_add (v_name rfl).r (f_list (l:=[.int 1]) (es_cons v_int es_nil) (one_le _)).e.r (by rw [List.length_map,List.length_singleton,sizeLine_eq]; dict_keeps)).e.r (r_own rfl) (by rw [List.length_append,List.length_map,List.length_map,List.length_singleton,sizeLine_eq]; dict_keeps)).e (by rw [List.map_append,List.map_append]; rfl))) ⟨_,SubL.sub (ρ₁:=rho5 n [] []) ⟨rfl,rfl,rfl,rfl,trivial⟩,.mk [] [] rfl rfl ⟨fun s h=>(by cases h),.nil,Nat.zero_le _,fun s h=>(by cases h),fun s h=>(by cases h),Nat.zero_le _⟩⟩ ?_ ?_
 ·rintro pre x post ρ₁ S₁ e ⟨kinds,steps,hρ,hS,st⟩
  subst hρ hS
  have hpl:pre.length≤1000:=by
   have:=congrArg List.length e
   simp only [List.length_append,List.length_cons,List.length_nil] at this; dict_keeps
  refine ⟨_,_,asg_name (by kernel_rfl),asgok_name,?_⟩
  refine read_turn5 (m:=m) H h2 h5 hpl st fun kinds' steps' ρ' st' hs=>⟨_,hs,.mk kinds' steps' rfl rfl (by rw [List.length_append]; exact st')⟩
 ·rintro ρ₁ S₁ ⟨kinds,steps,hρ,hS,st⟩
  subst hρ hS
  have hk:Kinds n kinds steps:=⟨h2,h5,st.rng,st.nd,st.few,st.sub,st.sup,by
   have:=st.len
   simp only [List.length_append,List.length_cons,List.length_nil] at this; dict_keeps⟩
  have hkl:=hk.few
  have hkm:(kinds.map encK).length = kinds.length:=List.length_map ..
  have h256:2 ^ kinds.length≤2 ^ 8:=Nat.pow_le_pow_right (by decide) hk.few
  refine ws_freeze (x:="kinds") rfl (ws_freeze (x:="steps") rfl ?_)
  refine s_assignF (ds:=iI [0]) (f_list (l:=[.int 0]) (es_cons v_int es_nil) (one_le _)) ?_
  refine s_assignF (ds:=iI []) (f_list (l:=[]) es_nil (Nat.zero_le _)) ?_
  refine s_for (List.range (2 ^ kinds.length)) (fun k:Nat=>.int (k:Int)) (LoopJ n kinds steps) (i_range (H.gl _ _ rfl) (v_bin v_int (v_lenD' H (v_name rfl).r hkm (by dict_keeps)) (bin_pow2 (by dict_keeps))) (by dict_keeps)) ⟨_,SubL.sub (ρ₁:=rhoK n kinds steps [0] []) ⟨rfl,rfl,rfl,rfl,rfl,trivial⟩,.mk [0] [] rfl .start⟩ ?_ ?_
  ·rintro pre s post ρ₁ S₂ e ⟨W,F,hρ,I⟩
   subst hρ
   have hs:pre.length = s:=by
    have h1:(List.range (2 ^ kinds.length))[pre.length]? = some s:=by rw [e,List.getElem?_append_right (Nat.le_refl _),Nat.sub_self]; rfl
    have hi:=(List.getElem?_eq_some_iff.mp h1).1
    rw [List.getElem?_range (by rw [List.length_range] at hi; exact hi)] at h1
    exact Option.some.inj h1
   have hlt:s < 2 ^ kinds.length:=List.mem_range.mp (by rw [e]; simp)
   rw [hs] at I
   have hw:=I.lenW
   have hf:=I.lenF
   refine ⟨_,_,asg_name (by kernel_rfl),asgok_name,?_⟩
   refine law_turn5 (m:=m) H hk (by dict_keeps) (by dict_keeps) fun W' F' ρ' S' t hsub=>⟨_,hsub,.mk W' F' rfl ?_⟩
   rw [List.length_append,List.length_singleton,hs]
   exact I.turn hk t
  ·rintro ρ₁ S₂ ⟨W,F,hρ,I⟩
   subst hρ
   rw [List.length_range] at I
   exact law_end5 (m:=m) H hk I
end
theorem well_ints {P:Params} {h:Heap} {l:List Int}:∀ {vs:List Value},WellAll P h vs (ofPys (l.map PyData.int))→Reps (fun a=>h.get? a) (l.map PyData.int) vs:=by
 induction l with
 | nil =>
  rintro o9 w
  cases w; exact rfl
 | cons i l ih =>
  rintro o9 w
  rw [List.map_cons,ofPys] at w
  cases w with
  | cons w1 w2 =>
   rw [ofPy] at w1
   cases w1
   exact ⟨_,_,rfl,⟨_,rfl⟩,ih w2⟩
theorem dk_ns {h:Heap} {a:Addr} {m:Str→Option Value} {o:Obj} (hn:h.Ns a m) (ho:h.get? a = some o) (x:Str):m x = (dk (some o)).lookup x:=by
 obtain ⟨o',es,ep,ho',hd,hk,hm⟩:=hn
 obtain rfl:=Option.some.inj (ho.symm.trans ho')
 have e1:dk (some o) = es.toList.filterMap strEnt:=by show (dictOf o.data).elim _ _ = _; rw [hd]; rfl
 rw [e1,← hm]
 show (es.find? fun e=>e.key.isStr x).map (·.val) = _
 rw [← Array.find?_toList]
 have hk':∀ e∈es.toList,∃ n t,e.key = .str n t:=fun e he=>hk e (Array.mem_toList_iff.mp he)
 clear hm hk ho ho' hd e1
 generalize es.toList = l at hk'
 induction l with
 | nil=>rfl
 | cons e l ih =>
  obtain ⟨n,t,hnt⟩:=hk' e (.head _)
  have e2:strEnt e = some (n,e.val):=by unfold strEnt; rw [hnt]; rfl
  rw [List.find?_cons,List.filterMap_cons,e2,hnt,isStr_eq]
  dsimp only
  rw [List.lookup_cons]
  by_cases q:n = x
  ·rw [q,beq_self_eq_true,decide_eq_true rfl]; rfl
  ·rw [beq_false_of_ne fun z=>q z.symm,decide_eq_false q]; exact ih fun e he=>hk' e (.tail _ he)
theorem goodJoin {K:Kx} {s₁:Shared} {fa a:Addr} {l:List Int} {c:ClaimW} {cl:Str→Option Addr} {mean:ExcName→Option Value} {args:List WData} {n:Nat} (hB:K.B = s₁.heap) (hg:s₁.gens = #[])
  (hw:Well K.w.params s₁.heap (.ref a) (ofPy (PyData.list (l.map PyData.int))))
  (hc:WCall n K (CR K) (fun o9=>none) (.ref fa) [.lst (l.map PyData.int)] fun r o9=>r = .val (.bool true)) (hn:n≤80)
  (hr:∀ cls,c.raises args cls = false) (hp:c.post args (.bool true) args = true) :
  wpAny K.M callerA (call (.ref fa) [.ref a]) (fun v s'=>GoodWG c cl mean args s₁ (.ok (.ret v)) s') (fun e s'=>GoodWG c cl mean args s₁ (.error e) s') s₁:=by
 have hfz:∀ b o,(fun b=>s₁.heap.get? b) b = some o→s₁.heap.get? b = some o:=fun o9 o9 e=>e
 have rep:Rep (fun b=>s₁.heap.get? b) (.lst (l.map PyData.int)) (.ref a):=by
  rw [ofPy] at hw
  cases hw with
  | list h1 h2 =>
   exact ⟨_,_,_,_,rfl,h1,⟨rfl,rfl,rfl⟩,rfl,well_ints h2⟩
 have ok:Okay n callerA:=⟨fun o9=>rfl,by show 301 + n < 900; (first | lia | omega),by show 4 + 100 * n < 9000; (first | lia | omega),rfl⟩
 refine wpAny_mono (hc.wp callerA [] (fun b=>s₁.heap.get? b) s₁ [.ref a] ok rfl (fun e he=>by cases he) ⟨fun b o e=>by rw [hB] at e; exact e,hfz⟩ (fun b c e=>by cases e) ⟨_,_,rfl,rep,rfl⟩) (fun v s' hp0=>?_) fun e s' hp0=>by obtain ⟨ea,Φ',S',cls,ds,tr,_,_,_,_,_,q⟩:=hp0; cases q
 obtain ⟨Φ',S',r,st,fp,rk,rr,e⟩:=hp0
 subst e
 obtain rfl:v = .bool true:=rr
 refine ⟨.inl ⟨.bool true,.bool true,[],rfl,hr,.bool true,hp,fun o9=>⟨by simp,fun o9 h=>by cases h⟩⟩,.of_keep fun b o e=>st.froz b o (st.le b o e),st.os,by rw [st.gens,hg]; intro y hy; simp at hy⟩
theorem mem_lookup {x:Str} {v:Value}:∀ {l:List (Str×Value)},l.lookup x = some v→(x,v)∈l
 | [],e=>by cases e
 | (a,b) :: l,e=>by
  rw [List.lookup_cons] at e
  by_cases q:x = a
  ·subst q; simp at e; subst e; exact .head _
  ·have q2:(x == a) = false:=by simpa using q
   rw [q2] at e; exact .tail _ (mem_lookup e)
theorem facts_glob {F:Frag} (hs:seenF F = goodF):globU.all (fun x=>(dk (F.lookup mainGlobals)).lookup x.1 == some x.2) = true∧globB.all (fun x=>(dk (F.lookup mainGlobals)).lookup x.1 == none) = true:=by
 have h:factsB F = true:=(Prod.mk.inj hs).1
 unfold factsB at h
 simp only [Bool.and_eq_true] at h
 exact ⟨h.1.2,h.2⟩
theorem glob_ns {F:Frag} {h:Heap} {mg:Str→Option Value} (hs:seenF F = goodF) (X:F.In h) (hg:h.Ns mainGlobals mg) (x:Str):mg x = (dk (F.lookup mainGlobals)).lookup x:=by
 have h1:=(facts_glob hs).1
 cases ho:F.lookup mainGlobals with
 | none=>rw [ho] at h1; (first | exact dNS h1 | exact dSN h1 | (obtain rfl:=Option.some.inj h1) | cases h1)
 | some o=>exact dk_ns hg (X _ _ ho) x
theorem globs_ok {F:Frag} {h:Heap} {mg mb:Str→Option Value} (hs:seenF F = goodF) (X:F.In h) (hg:h.Ns mainGlobals mg) (hb:∀ x:Str,x≠"__name__"→mb x = bootBuiltins x):∀ x v,globL.lookup x = some v→GlobOf mg mb x v:=by
 intro x v e
 unfold GlobOf
 rw [glob_ns hs X hg x]
 have hm:=List.mem_append.mp (mem_lookup e)
 rcases hm with hm | hm
 ·exact .inl (by simpa using List.all_eq_true.mp (facts_glob hs).1 _ hm)
 ·refine .inr ⟨by simpa using List.all_eq_true.mp (facts_glob hs).2 _ hm,?_⟩
  have all:globB.all (fun x=>x.1 != "__name__" && bootBuiltins x.1 == some x.2) = true:=by kernel_rfl
  have:=List.all_eq_true.mp all _ hm
  simp only [Bool.and_eq_true,bne_iff_ne,beq_iff_eq] at this
  rw [hb _ this.1,this.2]
theorem lawC {K:Kx} (H:Here K) {l:List Int} (hl:l.length≤63):WCall 40 K (CR K) (fun o9=>none) (.ref 156) [.lst (l.map PyData.int)] fun r o9=>r = .val (.bool true):=law156 (m:=34) H hl
theorem here_of {K:Kx} {F:Frag} (e:K.kf = F) (hs:seenF F = goodF) (hgl:K.gl = fun x=>globL.lookup x):Here K:=⟨by rw [e]; exact hs,fun x v q=>by rw [hgl]; exact q⟩
theorem endJ {w:World} {s₁:Shared} {mg mb:Str→Option Value} {F:Frag} {view:_} {loose:_} {means:_} {cl:Str→Option Addr} {mean:ExcName→Option Value} {l:List Int} {a:Addr} (hs:seenF F = goodF) (KX:F.In s₁.heap) (T:Top view loose means mg mb s₁.heap) (hg:s₁.gens = #[])
  (hwell:Well w.params s₁.heap (.ref a) (ofPy (PyData.list (l.map PyData.int)))) (hlen:l.length≤63) :
  wpAny (model PySem.Challenge.rw_dv0016_05.row.prog w) callerA (call (.ref 156) [.ref a]) (fun v s'=>GoodWG PySem.Challenge.rw_dv0016_05.row.claim cl mean [ofPy (PyData.list (l.map PyData.int))] s₁ (.ok (.ret v)) s') (fun e s'=>GoodWG PySem.Challenge.rw_dv0016_05.row.claim cl mean [ofPy (PyData.list (l.map PyData.int))] s₁ (.error e) s') s₁ :=
 goodJoin (K:={ prog:=PySem.Challenge.rw_dv0016_05.row.prog,w:=w,B:=s₁.heap,mg:=mg,mb:=mb,gl:=fun x=>globL.lookup x,glOk:=globs_ok hs KX T.g T.builtins,gB:=T.g,bB:=T.b,lim:=T.nolimit,kf:=F,kfB:=KX }) rfl hg hwell
  (by refine lawC ?_ hlen; exact here_of rfl hs rfl) (by decide) (fun o9=>rfl) (by first | with_unfolding_all rfl | kernel_rfl)
theorem law_at {F:Frag} {h:Heap} {mg:Str→Option Value} {fa:Addr} (hs:seenF F = goodF) (X:F.In h) (hg:h.Ns mainGlobals mg) (hmg:mg "law" = some (.ref fa)):fa = 156:=by
 have:=List.all_eq_true.mp (facts_glob hs).1 (("law":Str),Value.ref 156) (by decide)
 rw [← glob_ns hs X hg,hmg] at this
 simpa using this
noncomputable def fin05.tw12413330020571260068:Program:=PySem.Challenge.pw_dv0016_05
theorem fin05.te12413330020571260068:PySem.Challenge.pw_dv0016_05 = fin05.tw12413330020571260068:=rfl
set_option Elab.async true in
set_option maxHeartbeats 8000000 in
set_option tactic.hygienic true in
theorem fin05:PySem.Challenge.rw_dv0016_05.Holds:=by
 w_on
 o_law
 o_head Mine.hook0
 case hw=>w_witness2
 intro w s₀ s₁ mg mb G Y fa o pm cd doc dV kV ho hd' hcd hD hmg hg args vals as hpre hlay hrd hwl hlo
 obtain ⟨F,KX,hs⟩:=Y
 refine Ground.open G ?_
 intro T B D TE TW
 clear hd' hD hcd G B D TE TW ho
 have hfa:fa = 156:=law_at hs KX T.g hmg
 subst hfa
 clear hmg
 wrow_args hpre hlay hrd hwl hlo
 rename_i l _ _ _ _ _ _ _ a _ _ _ _ hwell _ _ _ hlen _
 have hl:l.length≤63:=by (first | lia | omega)
 exact endJ hs KX T hg hwell hl
end Mine
set_option maxHeartbeats 4000000 in
theorem PySem.Challenge.cw_dv0016_05_holds : PySem.Challenge.rw_dv0016_05.Holds :=
  Mine.fin05
